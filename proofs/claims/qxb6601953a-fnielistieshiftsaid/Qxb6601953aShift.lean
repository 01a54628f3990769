/-
  THE WALK of FnIEListIEShift (6).
-/
import Derived.Test.Qxb6601953aIe
import Derived.Test.Qxb6601953aClone
namespace Go.Proofs.Qxb6601953a
open Go.RowKit Go.Proofs.Qxb6601953a.Plain

theorem bytes15_yes (a : Option Addr) (n c : Nat) (i : Int) (w : World) (h : (n : Int) ≤ 1048576) :
    Calls Try.prog 15 #[.slice a n c, .int .i64 i] w fun e w' => e = .returned (.bool true) ∧ w' = w := by
  go_enter Try.func15, Try.ntmps15
  go_wp2
  go_ret
  exact ⟨rfl, rfl⟩

theorem bytes15_no (a : Option Addr) (n c : Nat) (i : Int) (w : World) (h : (1048576 : Int) < (n : Int)) :
    Calls Try.prog 15 #[.slice a n c, .int .i64 i] w fun e w' => e = .returned (.bool false) ∧ w' = w := by
  go_enter Try.func15, Try.ntmps15
  go_wp2
  go_ret
  exact ⟨rfl, rfl⟩

theorem shift_long (a : Option Addr) (n c : Nat) (i : Int) (w : World) (h : (1048576 : Int) < (n : Int)) :
    Calls Try.prog 6 #[.slice a n c, .int .i64 i] w fun e w' => e = .returned (.bool true) ∧ w' = w := by
  go_enter Try.func6, Try.ntmps6
  go_wp2_with (go_at_call 15; refine (bytes15_no _ _ _ _ _ h).mono ?_; rintro e w' ⟨rfl, rfl⟩)
  go_ret
  exact ⟨rfl, rfl⟩

theorem shift_neg (a : Option Addr) (n c : Nat) (i : Int) (w : World) (h : (n : Int) ≤ 1048576) (hi : i < 0) :
    Calls Try.prog 6 #[.slice a n c, .int .i64 i] w fun e w' => e = .returned (.bool true) ∧ w' = w := by
  go_enter Try.func6, Try.ntmps6
  go_wp2_with (go_at_call 15; refine (bytes15_yes _ _ _ _ _ h).mono ?_; rintro e w' ⟨rfl, rfl⟩)
  go_ret
  exact ⟨rfl, rfl⟩

theorem shift_far (a : Option Addr) (n c : Nat) (i : Int) (w : World) (h : (n : Int) ≤ 1048576) (hi : 1048576 < i) :
    Calls Try.prog 6 #[.slice a n c, .int .i64 i] w fun e w' => e = .returned (.bool true) ∧ w' = w := by
  have h0 : ¬ i < 0 := by omega
  go_enter Try.func6, Try.ntmps6
  go_wp2_with (go_at_call 15; refine (bytes15_yes _ _ _ _ _ h).mono ?_; rintro e w' ⟨rfl, rfl⟩)
  go_ret
  exact ⟨rfl, rfl⟩

theorem shift_zero (a : Option Addr) (c : Nat) (i : Int) (w : World) (h0 : 0 ≤ i) (h1 : i ≤ 1048576) :
    Calls Try.prog 6 #[.slice a 0 c, .int .i64 i] w fun e w' => e = .returned (.bool true) ∧ w' = w := by
  go_enter Try.func6, Try.ntmps6
  go_wp2_with (first | (go_at_call 15; refine (bytes15_yes _ _ _ _ _ (by omega)).mono ?_; rintro e w' ⟨rfl, rfl⟩) | (go_at_call 16; refine (elem_zero _ _ _ _).mono ?_; rintro e w' ⟨rfl, rfl⟩))
  go_ret
  exact ⟨rfl, rfl⟩

theorem shift_none (b o n c i : Nat) (xs : List Int) (w : World) (hn : (n : Int) ≤ 1048576) (hx : xs.length = n) (hc : n ≤ c) (hb : ∀ j, 0 ≤ xs.getD j 0 ∧ xs.getD j 0 ≤ 255)
    (hcell : ∀ j, j < n → w.cell? ⟨b, o + j, none⟩ = some (.int .u8 (xs.getD j 0))) (h1 : (i : Int) ≤ 1048576) (hf : n < offAt xs (i + 1 + 1)) :
    Calls Try.prog 6 #[.slice (some ⟨b, o, none⟩) n c, .int .i64 i] w fun e w' => e = .returned (.bool true) ∧ w' = w := by
  go_enter Try.func6, Try.ntmps6
  go_wp2_with (go_at_call 15; refine (bytes15_yes _ _ _ _ _ hn).mono ?_; rintro e w' ⟨rfl, rfl⟩)
  refine (elem_none b o n c (i + 1) xs _ (by omega) hx hc hb hcell hf _ (by omega)).mono ?_
  rintro e w' ⟨rfl, rfl⟩
  go_wp2
  go_ret
  exact ⟨rfl, rfl⟩
end Go.Proofs.Qxb6601953a
