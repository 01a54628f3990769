/-
  THE WALK of FnIEListIEShift (6), where element i+1 is there.
-/
import Derived.Test.Qxb6601953aShift
namespace Go.Proofs.Qxb6601953a
open Go.RowKit Go.Proofs.Qxb6601953a.Plain

set_option maxHeartbeats 1000000 in
theorem shift_found (b o n c i p m m0 : Nat) (t t0 : Int) (xs : List Int) (w : World) (hn : (n : Int) ≤ 1048576) (hx : xs.length = n) (hc : n ≤ c) (hb : ∀ j, 0 ≤ xs.getD j 0 ∧ xs.getD j 0 ≤ 255)
    (hcell : ∀ j, j < n → w.cell? ⟨b, o + j, none⟩ = some (.int .u8 (xs.getD j 0))) (h1 : (i : Int) ≤ 1048576)
    (hp : offAt xs (i + 1) = p) (ht : xs.getD p 0 = t) (hm : xs.getD (p + 1) 0 = (m : Int)) (hf : p + 2 + m ≤ n) (ht0 : xs.getD 0 0 = t0) (hm0 : xs.getD 1 0 = (m0 : Int)) (hp0 : 2 + m0 ≤ p) :
    Calls Try.prog 6 #[.slice (some ⟨b, o, none⟩) n c, .int .i64 i] w fun e w' => e = .returned (.bool true) ∧ Below w.heap.size w w' := by
  have hs : offAt xs (i + 1 + 1) = p + 2 + m := by rw [offAt_succ, hp, hm, Int.toNat_natCast]
  have HP : Hid (offAt xs (i + 1) = p) := hp
  have HT : Hid (xs.getD p 0 = t) := ht
  have HM : Hid (xs.getD (p + 1) 0 = (m : Int)) := hm
  have HT0 : Hid (xs.getD 0 0 = t0) := ht0
  have HM0 : Hid (xs.getD 1 0 = (m0 : Int)) := hm0
  have HS : Hid (offAt xs (i + 1 + 1) = p + 2 + m) := hs
  have HX : Hid (xs.length = n) := hx
  clear hp ht hm ht0 hm0 hs hx
  go_enter Try.func6, Try.ntmps6
  go_wp2_with (go_at_call 15; refine (bytes15_yes _ _ _ _ _ hn).mono ?_; rintro e w' ⟨rfl, hw⟩; obtain rfl := hw.symm)
  refine (elem_found b o n c (i + 1) xs _ (by omega) HX.out hc hb hcell (by rw [HS.out]; exact hf) _ (by omega)).mono ?_
  rintro e w' ⟨et, eq, em, rfl, _, _, hw⟩
  obtain rfl := hw.symm
  go_wp2_with fail
  refine (clone_some ⟨b, o, none⟩ n c xs w (by omega) HX.out (fun _ => ⟨b, o, rfl, by rw [HX.out]; exact hcell⟩)).mono ?_
  rintro e w1 ⟨rfl, hg1, hb1⟩
  have hz1 : w.heap.size < w1.heap.size := (Array.getElem?_eq_some_iff.1 hg1).1
  have cell1 := cells_octs hg1
  rw [HX.out] at cell1
  have C1 : Hid (∀ j, j < n → w1.cell? ⟨w.heap.size, 0 + j, none⟩ = some (.int .u8 (xs.getD j 0))) := cell1
  clear hg1 cell1 hcell
  go_wp2_with fail
  refine (ie_any w.heap.size 0 n n 0 0 m0 t0 xs w1 (by omega) HX.out (Nat.le_refl _) hb C1.out rfl HT0.out HM0.out (by omega) 0 rfl).mono ?_
  rintro e w2 ⟨ac, rfl, hac, hb2⟩
  have hz2 : w.heap.size < w2.heap.size := Nat.lt_of_lt_of_le hz1 hb2.size
  have bel2 : Below w.heap.size w w2 := hb1.trans (hb2.mono hb1.size)
  have C2 : Hid (∀ j, j < n → w2.cell? ⟨w.heap.size, 0 + j, none⟩ = some (.int .u8 (xs.getD j 0))) := fun j hj => (hb2.cell (by exact hz1)).trans (C1.out j hj)
  have c0 : w2.cell? ⟨w.heap.size, 0, none⟩ = some (.int .u8 t0) := by rw [← HT0.out]; exact C2.out 0 (by omega)
  have c1 : w2.cell? ⟨w.heap.size, 1, none⟩ = some (.int .u8 (m0 : Int)) := by rw [← HM0.out]; exact C2.out 1 (by omega)
  have rc : RowB w2 ac ((xs.drop 2).take m0) := rowB_window HX.out C2.out (fun h => by rw [hac h]) (by omega)
  have rl : RowB w2 (some ⟨w.heap.size, 2, none⟩) ((xs.drop 2).take m0) := rowB_window HX.out C2.out (fun h => by simp) (by omega)
  have lm0 : ((xs.drop 2).take m0).length = m0 := by simp; have := HX.out; omega
  have LM0 : Hid (((xs.drop 2).take m0).length = m0) := lm0
  clear hac C1 lm0
  have i0 : (0 : Int) < (n : Int) := by omega
  have i1 : (1 : Int) < (n : Int) := by omega
  have i2 : ¬ n = 2 := by omega
  have i3 : (2 : Int) + (m0 : Int) ≤ (n : Int) := by omega
  go_wp2_with fail
  have rc' := rc.later ((Below.refl _ _).alloc (Nat.le_refl _) (.cells #[.int .u8 t0, .slice ac m0 m0] 27))
  have rl' := rl.later ((Below.refl _ _).alloc (Nat.le_refl _) (.cells #[.int .u8 t0, .slice ac m0 m0] 27))
  clear rc rl
  go_quiet ((go_at_call 9; exact Calls.quiet_of (same_yes _ _ m0 _ _ _ _ (by omega) LM0.out rc' rl')))
  clear rc' rl' c0 c1
  have C3 : Hid (∀ j, j < n → ((w2.alloc (.cells #[.int .u8 t0, .slice ac m0 m0] 27)).drewN nq).cell? ⟨w.heap.size, 0 + j, none⟩ = some (.int .u8 (xs.getD j 0))) :=
    fun j hj => (World.cell?_alloc_past _ _ _ hz2).trans (C2.out j hj)
  go_wp2_with fail
  refine (ie_any w.heap.size 0 n n (i + 1) p m t xs _ (by omega) HX.out (Nat.le_refl _) hb C3.out HP.out HT.out HM.out hf _ (by omega)).mono ?_
  rintro e w3 ⟨aa, rfl, haa, hb3⟩
  have bel3 : Below w.heap.size w w3 := (below_drewN (bel2.alloc bel2.size _) nq).trans (hb3.mono (by simp; omega))
  have hz3 : w.heap.size < w3.heap.size := by have := hb3.size; simp at this; omega
  have C4 : Hid (∀ j, j < n → w3.cell? ⟨w.heap.size, 0 + j, none⟩ = some (.int .u8 (xs.getD j 0))) := fun j hj => (hb3.cell (by simp; omega)).trans (C3.out j hj)
  have c1 : w3.cell? ⟨w.heap.size, 1, none⟩ = some (.int .u8 (m0 : Int)) := by rw [← HM0.out]; exact C4.out 1 (by omega)
  have ra : RowB w3 aa ((xs.drop (p + 2)).take m) := rowB_window HX.out C4.out haa (by omega)
  have i4 : ¬ n = 2 + m0 := by omega
  clear haa C2 C3 hb3
  go_wp2_with fail
  have hlen' : (xs.drop (2 + m0)).length = n - (2 + m0) := by rw [List.length_drop, HX.out]
  have e' : 2 + m0 + (p - (2 + m0)) = p := by omega
  have hb' : ∀ j, 0 ≤ (xs.drop (2 + m0)).getD j 0 ∧ (xs.drop (2 + m0)).getD j 0 ≤ 255 := fun j => by rw [getD_drop]; exact hb _
  have cell' : ∀ j, j < n - (2 + m0) → (w3.alloc (.cells #[.int .u8 t, .slice aa m m] 27)).cell? ⟨w.heap.size, (2 + m0) + j, none⟩ = some (.int .u8 ((xs.drop (2 + m0)).getD j 0)) := fun j hj => by
    rw [World.cell?_alloc_past _ _ _ hz3, getD_drop]
    have := C4.out (2 + m0 + j) (by omega)
    rwa [Nat.zero_add] at this
  refine (ie_any w.heap.size (2 + m0) (n - (2 + m0)) (n - (2 + m0)) i (p - (2 + m0)) m t (xs.drop (2 + m0)) _ (by omega) hlen' (Nat.le_refl _) hb' cell' (offAt_rest xs m0 p i HM0.out HP.out) (by rw [getD_drop, e']; exact HT.out) (by rw [getD_drop, ← Nat.add_assoc, e']; exact HM.out) (by omega) _ rfl).mono ?_
  rintro e w4 ⟨ab, rfl, hab, hb4⟩
  have d0 : w4.cell? ⟨w3.heap.size, 0, none⟩ = some (.int .u8 t) := (hb4.cell (by simp)).trans (by simp)
  have d1 : w4.cell? ⟨w3.heap.size, 1, none⟩ = some (.slice aa m m) := (hb4.cell (by simp)).trans (by simp)
  have hz4 : w3.heap.size < w4.heap.size := by have := hb4.size; simp at this; omega
  have b4 : Below w3.heap.size w3 w4 := ((Below.refl _ _).alloc (Nat.le_refl _) _).trans (hb4.mono (by simp))
  have bel4 : Below w.heap.size w w4 := bel3.trans (b4.mono bel3.size)
  have C5 : Hid (∀ j, j < n → w4.cell? ⟨w.heap.size, 0 + j, none⟩ = some (.int .u8 (xs.getD j 0))) := fun j hj => (b4.cell (by exact hz3)).trans (C4.out j hj)
  have rb : RowB w4 ab ((xs.drop (p + 2)).take m) := rowB_window HX.out C5.out (fun h => by rw [hab h]; congr 2; omega) (by omega)
  have ra4 := (ra.later b4).later ((Below.refl _ _).alloc (Nat.le_refl _) (.cells #[.int .u8 t, .slice ab m m] 27))
  have rb4 := rb.later ((Below.refl _ _).alloc (Nat.le_refl _) (.cells #[.int .u8 t, .slice ab m m] 27))
  have LM : Hid (((xs.drop (p + 2)).take m).length = m) := (by simp; have := HX.out; omega : ((xs.drop (p + 2)).take m).length = m)
  clear hab C4 C5 hb4 ra rb cell' hb' e' hlen' c1
  go_wp2_with fail
  refine (same_yes _ _ m _ _ _ _ (by omega) LM.out ra4 rb4).mono ?_
  rintro e w5 ⟨rfl, k5, rfl⟩
  go_wp2
  go_ret
  exact ⟨rfl, below_drewN (bel4.alloc bel4.size _) _⟩
end Go.Proofs.Qxb6601953a
