import Derived.Test.Qxb6601953aBase
namespace Go.Proofs.Qxb6601953a
open Go.RowKit

theorem cell_alloc {w : World} {a : Addr} {v : Value} (h : w.cell? a = some v) (o : Obj) : (w.alloc o).cell? a = some v :=
  ((Below.refl w.heap.size w).alloc (Nat.le_refl _) o).cell (World.block_lt_of_cell? w a h) |>.trans h

theorem ident_yes (b off : Nat) (h : Int) (w : World) (hc : w.cell? ⟨b, off, none⟩ = some (.int .u8 h)) (h0 : 0 ≤ h) (h1 : h ≤ 255) (hm : h % 8 = 4) :
    Calls Try.prog 19 #[.slice (some ⟨b, off, none⟩) 5 5] w fun e w' => e = .returned (.tuple #[.slice (some ⟨b, off + 1, none⟩) 4 4, .bool true]) ∧ w' = w := by
  go_enter Try.func19, Try.ntmps19
  go_wp2
  go_ret2
  exact ⟨rfl, rfl⟩

theorem ident_no (b off : Nat) (h : Int) (w : World) (hc : w.cell? ⟨b, off, none⟩ = some (.int .u8 h)) (h0 : 0 ≤ h) (h1 : h ≤ 255) (hm : (h % 8 == 4) = false) :
    Calls Try.prog 19 #[.slice (some ⟨b, off, none⟩) 5 5] w fun e w' => e = .returned (.tuple #[.slice none 0 0, .bool false]) ∧ w' = w := by
  go_enter Try.func19, Try.ntmps19
  go_wp2
  go_ret2
  exact ⟨rfl, rfl⟩

theorem tmsi3_any (a : Option Addr) (c : Nat) (w : World) :
    Calls Try.prog 8 #[.agg #[.int .u8 3, .slice a 4 c]] w fun e w' => e = .returned (.tuple #[.slice a 4 c, .bool true]) ∧ Below w.heap.size w w' := by
  go_enter Try.func8, Try.ntmps8
  go_wp2
  go_quiet (fail)
  go_wp2
  go_ret2
  exact ⟨rfl, below_drewN ((Below.refl _ _).alloc (Nat.le_refl _) _) _⟩

theorem tmsi14_yes (b off : Nat) (h : Int) (w : World) (hc : w.cell? ⟨b, off, none⟩ = some (.int .u8 h)) (h0 : 0 ≤ h) (h1 : h ≤ 255) (hm : h % 8 = 4) :
    Calls Try.prog 8 #[.agg #[.int .u8 14, .slice (some ⟨b, off, none⟩) 5 5]] w fun e w' => e = .returned (.tuple #[.slice (some ⟨b, off + 1, none⟩) 4 4, .bool true]) ∧ Below w.heap.size w w' := by
  go_enter Try.func8, Try.ntmps8
  go_wp2_with (go_at_call 19; refine (ident_yes b off h _ (cell_alloc hc _) h0 h1 hm).mono ?_; rintro e w' ⟨rfl, rfl⟩)
  go_ret2
  exact ⟨rfl, (Below.refl _ _).alloc (Nat.le_refl _) _⟩

theorem tmsi14_no (b off : Nat) (h : Int) (w : World) (hc : w.cell? ⟨b, off, none⟩ = some (.int .u8 h)) (h0 : 0 ≤ h) (h1 : h ≤ 255) (hm : (h % 8 == 4) = false) :
    Calls Try.prog 8 #[.agg #[.int .u8 14, .slice (some ⟨b, off, none⟩) 5 5]] w fun e w' => e = .returned (.tuple #[.slice none 0 0, .bool false]) ∧ Below w.heap.size w w' := by
  go_enter Try.func8, Try.ntmps8
  go_wp2_with (go_at_call 19; refine (ident_no b off h _ (cell_alloc hc _) h0 h1 hm).mono ?_; rintro e w' ⟨rfl, rfl⟩)
  go_ret2
  exact ⟨rfl, (Below.refl _ _).alloc (Nat.le_refl _) _⟩

theorem bcell {W w1 : World} (hb : Below W.heap.size W w1) : (∀ b o, b < W.heap.size → w1.cell? ⟨b, o, none⟩ = W.cell? ⟨b, o, none⟩) :=
  fun b o h => hb.cell (p := ⟨b, o, none⟩) h

set_option maxHeartbeats 400000 in
theorem trip_yes (t0 t1 t2 t3 h : Int) (w : World) (h0 : 0 ≤ h) (h1 : h ≤ 255) (hm : h % 8 = 4) :
    Calls Try.prog 3 #[.agg #[.int .u8 t0, .int .u8 t1, .int .u8 t2, .int .u8 t3], .int .u8 h] w fun e w' => e = .returned (.bool true) ∧ Below w.heap.size w w' := by
  go_enter Try.func3, Try.ntmps3
  go_wp2_with fail
  refine (tmsi3_any _ _ _).mono ?_
  rintro e w1 ⟨rfl, hb1⟩
  have hc := bcell hb1
  have hz : w.heap.size + 2 < w1.heap.size := by have := hb1.size; simp at this; omega
  have bel1 : Below w.heap.size w w1 := ((((Below.refl _ _).alloc (Nat.le_refl _) _).alloc (by simp) _).alloc (by simp; omega) _).trans (hb1.mono (by simp; omega))
  have r1 : RowB w1 (some ⟨w.heap.size + 1, 0, none⟩) [t0, t1, t2, t3] := (RowB.new4 _ _ (by simp) _ _ _ _ _).later (((Below.refl _ _).alloc (Nat.le_refl _) _).trans (hb1.mono (by simp)))
  have r2 : RowB w1 (some ⟨w.heap.size + 1 + 1, 0, none⟩) [t0, t1, t2, t3] := (RowB.new4 _ _ (by simp) _ _ _ _ _).later hb1
  go_wp2_with fail
  refine (tmsi14_yes _ 0 h _ (by simp) h0 h1 hm).mono ?_
  rintro e w2 ⟨rfl, hb2⟩
  clear hc
  have r3 := (RowB.new5 w1 _ rfl 5 h t0 t1 t2 t3).later hb2
  have b2 : Below w1.heap.size w1 w2 := ((Below.refl _ _).alloc (Nat.le_refl _) _).trans (hb2.mono (by simp))
  replace r1 := r1.later b2
  replace r2 := r2.later b2
  have bel2 : Below w.heap.size w w2 := bel1.trans (b2.mono bel1.size)
  go_wp2_with fail
  refine (same_yes _ _ 4 4 4 _ w2 (by omega) rfl r2 r1).mono ?_
  rintro e w3 ⟨rfl, k3, rfl⟩
  go_wp2_with fail
  refine (same_yes _ _ 4 4 4 _ (w2.drewN k3) (by omega) rfl r3 r1).mono ?_
  rintro e w3 ⟨rfl, k4, rfl⟩
  go_wp2
  go_ret
  exact ⟨rfl, below_drewN bel2 _⟩

set_option maxHeartbeats 400000 in
theorem trip_no (t0 t1 t2 t3 h : Int) (w : World) (h0 : 0 ≤ h) (h1 : h ≤ 255) (hm : (h % 8 == 4) = false) :
    Calls Try.prog 3 #[.agg #[.int .u8 t0, .int .u8 t1, .int .u8 t2, .int .u8 t3], .int .u8 h] w fun e w' => e = .returned (.bool true) ∧ Below w.heap.size w w' := by
  have q23 : ∀ (w : World) (a : Option Addr) (n c n' c' : Nat), (binOp .eql 23 (.slice a n c) (.slice none n' c')).run Try.prog w = .ok (.bool a.isNone) w := fun w a n c n' c' => Lib.run_eql_slice_nil w _ _ a n c n' c' Try.underlying23
  go_enter Try.func3, Try.ntmps3
  go_wp2_with fail
  refine (tmsi3_any _ _ _).mono ?_
  rintro e w1 ⟨rfl, hb1⟩
  have hc := bcell hb1
  have hz : w.heap.size + 2 < w1.heap.size := by have := hb1.size; simp at this; omega
  have bel1 : Below w.heap.size w w1 := ((((Below.refl _ _).alloc (Nat.le_refl _) _).alloc (by simp) _).alloc (by simp; omega) _).trans (hb1.mono (by simp; omega))
  have r1 : RowB w1 (some ⟨w.heap.size + 1, 0, none⟩) [t0, t1, t2, t3] := (RowB.new4 _ _ (by simp) _ _ _ _ _).later (((Below.refl _ _).alloc (Nat.le_refl _) _).trans (hb1.mono (by simp)))
  have r2 : RowB w1 (some ⟨w.heap.size + 1 + 1, 0, none⟩) [t0, t1, t2, t3] := (RowB.new4 _ _ (by simp) _ _ _ _ _).later hb1
  go_wp2_with fail
  refine (tmsi14_no _ 0 h _ (by simp) h0 h1 hm).mono ?_
  rintro e w2 ⟨rfl, hb2⟩
  clear hc
  have b2 : Below w1.heap.size w1 w2 := ((Below.refl _ _).alloc (Nat.le_refl _) _).trans (hb2.mono (by simp))
  replace r1 := r1.later b2
  replace r2 := r2.later b2
  have bel2 : Below w.heap.size w w2 := bel1.trans (b2.mono bel1.size)
  go_wp2_with fail
  refine (same_yes _ _ 4 4 4 _ w2 (by omega) rfl r2 r1).mono ?_
  rintro e w3 ⟨rfl, k3, rfl⟩
  go_wp2
  go_ret
  exact ⟨rfl, below_drewN bel2 _⟩

end Go.Proofs.Qxb6601953a
