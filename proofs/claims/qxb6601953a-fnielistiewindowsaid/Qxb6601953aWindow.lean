/-
  THE WALK of FnIEListIEWindow (7), ahead of its loop's cases.
-/
import Derived.Test.Qxb6601953aIe
import Derived.Test.Qxb6601953aClone
import Derived.ArgAppend
namespace Go.Proofs.Qxb6601953a
open Go.RowKit Go.Proofs.Qxb6601953a.Plain

theorem bytes18_yes (a : Option Addr) (n c : Nat) (i : Int) (w : World) (h : (n : Int) ≤ 1048576) :
    Calls Try.prog 18 #[.slice a n c, .int .i64 i] w fun e w' => e = .returned (.bool true) ∧ w' = w := by
  go_enter Try.func18, Try.ntmps18
  go_wp2
  go_ret
  exact ⟨rfl, rfl⟩

theorem bytes18_no (a : Option Addr) (n c : Nat) (i : Int) (w : World) (h : (1048576 : Int) < (n : Int)) :
    Calls Try.prog 18 #[.slice a n c, .int .i64 i] w fun e w' => e = .returned (.bool false) ∧ w' = w := by
  go_enter Try.func18, Try.ntmps18
  go_wp2
  go_ret
  exact ⟨rfl, rfl⟩

theorem window_long (a : Option Addr) (n c : Nat) (i : Int) (w : World) (h : (1048576 : Int) < (n : Int)) :
    Calls Try.prog 7 #[.slice a n c, .int .i64 i] w fun e w' => e = .returned (.bool true) ∧ w' = w := by
  go_enter Try.func7, Try.ntmps7
  go_wp2_with (go_at_call 18; refine (bytes18_no _ _ _ _ _ h).mono ?_; rintro e w' ⟨rfl, rfl⟩)
  go_ret
  exact ⟨rfl, rfl⟩

theorem window_neg (a : Option Addr) (n c : Nat) (i : Int) (w : World) (h : (n : Int) ≤ 1048576) (hi : i < 0) :
    Calls Try.prog 7 #[.slice a n c, .int .i64 i] w fun e w' => e = .returned (.bool true) ∧ w' = w := by
  go_enter Try.func7, Try.ntmps7
  go_wp2_with (go_at_call 18; refine (bytes18_yes _ _ _ _ _ h).mono ?_; rintro e w' ⟨rfl, rfl⟩)
  go_ret
  exact ⟨rfl, rfl⟩

theorem window_zero (a : Option Addr) (c : Nat) (i : Int) (w : World) (h0 : 0 ≤ i) :
    Calls Try.prog 7 #[.slice a 0 c, .int .i64 i] w fun e w' => e = .returned (.bool true) ∧ w' = w := by
  go_enter Try.func7, Try.ntmps7
  go_wp2_with (first | (go_at_call 18; refine (bytes18_yes _ _ _ _ _ (by omega)).mono ?_; rintro e w' ⟨rfl, rfl⟩) | (go_at_call 16; refine (elem_zero _ _ _ _).mono ?_; rintro e w' ⟨rfl, rfl⟩))
  go_ret
  exact ⟨rfl, rfl⟩

theorem window_none (b o n c i : Nat) (xs : List Int) (w : World) (hn : (n : Int) ≤ 1048576) (hx : xs.length = n) (hc : n ≤ c) (hb : ∀ j, 0 ≤ xs.getD j 0 ∧ xs.getD j 0 ≤ 255)
    (hcell : ∀ j, j < n → w.cell? ⟨b, o + j, none⟩ = some (.int .u8 (xs.getD j 0))) (hf : n < offAt xs (i + 1)) :
    Calls Try.prog 7 #[.slice (some ⟨b, o, none⟩) n c, .int .i64 i] w fun e w' => e = .returned (.bool true) ∧ w' = w := by
  go_enter Try.func7, Try.ntmps7
  go_wp2_with (go_at_call 18; refine (bytes18_yes _ _ _ _ _ hn).mono ?_; rintro e w' ⟨rfl, rfl⟩)
  refine (elem_none b o n c i xs _ (by omega) hx hc hb hcell hf _ rfl).mono ?_
  rintro e w' ⟨rfl, rfl⟩
  go_wp2
  go_ret
  exact ⟨rfl, rfl⟩
end Go.Proofs.Qxb6601953a
