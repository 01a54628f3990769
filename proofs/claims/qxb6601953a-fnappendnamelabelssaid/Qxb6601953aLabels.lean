/-
  THE WALK of FnAppendNameLabels (5).
-/
import Derived.Test.Qxb6601953aDotted
namespace Go.Proofs.Qxb6601953a
open Go.RowKit Go.Proofs.Qxb6601953a.Names

theorem clone_any (a : Option Addr) (n c : Nat) (xs : List Int) (w : World) (hn : n ≤ 1073741824) (h : (a = none ∧ n = 0 ∧ c = 0 ∧ xs = []) ∨ ∃ x, a = some x ∧ xs.length = n ∧ RowB w (some x) xs) :
    Calls Try.prog 11 #[.slice a n c] w fun e w' => ∃ ad, e = .returned (.slice ad n n) ∧ (ad = none → n = 0) ∧ RowB w' ad xs ∧ Below w.heap.size w w' := by
  rcases h with ⟨rfl, rfl, rfl, rfl⟩ | ⟨x, rfl, hx, hr⟩
  · refine (clone_nil w).mono ?_
    rintro e w' ⟨he, rfl⟩
    exact ⟨none, he, fun _ => rfl, RowB.nil _ _, Below.refl _ _⟩
  · refine (clone_some x n c xs w hn hx hr).mono ?_
    rintro e w' ⟨he, hg, hb⟩
    exact ⟨_, he, (fun h => by cases h), fun _ => ⟨_, _, rfl, cells_octs hg⟩, hb⟩

/-- The answer of the bound: true wherever both lengths are at most 2^19. -/
def Bound (d n : Nat) (w : World) (e : Ending) (w' : World) : Prop := ∃ r, e = .returned (.bool r) ∧ (d ≤ 524288 → n ≤ 524288 → r = true) ∧ w' = w

theorem bytes12_any (a b : Option Addr) (d n c1 c2 : Nat) (w : World) :
    Calls Try.prog 12 #[.slice a d c1, .slice b n c2] w fun e w' => Bound d n w e w' := by
  by_cases h1 : (1048576 : Int) < (d : Int)
  · go_enter Try.func12, Try.ntmps12
    go_wp2
    go_ret
    exact ⟨false, rfl, fun h => by omega, rfl⟩
  · by_cases h2 : (1048576 : Int) < (n : Int)
    · go_enter Try.func12, Try.ntmps12
      go_wp2
      go_ret
      exact ⟨false, rfl, fun _ h => by omega, rfl⟩
    · by_cases h3 : (1048576 : Int) < (d : Int) + (n : Int)
      · go_enter Try.func12, Try.ntmps12
        go_wp2
        go_ret
        exact ⟨false, rfl, fun _ h => by omega, rfl⟩
      · go_enter Try.func12, Try.ntmps12
        go_wp2
        go_ret
        exact ⟨true, rfl, fun _ _ => rfl, rfl⟩

theorem labels_d (a b : Option Addr) (d n c1 c2 : Nat) (w : World) (h : (524288 : Int) < (d : Int)) :
    Calls Try.prog 5 #[.slice a d c1, .slice b n c2] w fun e w' => e = .returned (.bool true) ∧ w' = w := by
  go_enter Try.func5, Try.ntmps5
  go_wp2_with fail
  refine (bytes12_any a b d n c1 c2 w).mono ?_
  rintro e w' ⟨r, rfl, _, hw⟩
  obtain rfl := hw.symm
  cases r
  · go_wp2
    go_ret
    exact ⟨rfl, rfl⟩
  · go_wp2
    go_ret
    exact ⟨rfl, rfl⟩

theorem labels_n (a b : Option Addr) (d n c1 c2 : Nat) (w : World) (hd : (d : Int) ≤ 524288) (h : (524288 : Int) < (n : Int)) :
    Calls Try.prog 5 #[.slice a d c1, .slice b n c2] w fun e w' => e = .returned (.bool true) ∧ w' = w := by
  go_enter Try.func5, Try.ntmps5
  go_wp2_with fail
  refine (bytes12_any a b d n c1 c2 w).mono ?_
  rintro e w' ⟨r, rfl, _, hw⟩
  obtain rfl := hw.symm
  cases r
  · go_wp2
    go_ret
    exact ⟨rfl, rfl⟩
  · go_wp2
    go_ret
    exact ⟨rfl, rfl⟩

theorem labels_zero (a b : Option Addr) (d c1 c2 : Nat) (w : World) (hd : (d : Int) ≤ 524288) :
    Calls Try.prog 5 #[.slice a d c1, .slice b 0 c2] w fun e w' => e = .returned (.bool true) ∧ w' = w := by
  go_enter Try.func5, Try.ntmps5
  go_wp2_with fail
  refine (bytes12_any a b d 0 c1 c2 w).mono ?_
  rintro e w' ⟨r, rfl, _, hw⟩
  obtain rfl := hw.symm
  cases r
  · go_wp2
    go_ret
    exact ⟨rfl, rfl⟩
  · go_wp2
    go_ret
    exact ⟨rfl, rfl⟩

set_option maxHeartbeats 400000 in
theorem labels_main (a : Option Addr) (x : Addr) (d n c1 c2 : Nat) (ds vs : List Int) (w : World) (hd : (d : Int) ≤ 524288) (hn : (n : Int) ≤ 524288) (hn1 : 1 ≤ n) (hb : ∀ j, 0 ≤ vs.getD j 0 ∧ vs.getD j 0 ≤ 255)
    (hds : ds.length = d) (hvs : vs.length = n) (ha : (a = none ∧ d = 0 ∧ c1 = 0 ∧ ds = []) ∨ ∃ x, a = some x ∧ ds.length = d ∧ RowB w (some x) ds) (hr : RowB w (some x) vs) :
    Calls Try.prog 5 #[.slice a d c1, .slice (some x) n c2] w fun e w' => e = .returned (.bool true) ∧ Below w.heap.size w w' := by
  have HDS : Hid (ds.length = d) := hds
  have HVS : Hid (vs.length = n) := hvs
  have HA : Hid ((a = none ∧ d = 0 ∧ c1 = 0 ∧ ds = []) ∨ ∃ x, a = some x ∧ ds.length = d ∧ RowB w (some x) ds) := ha
  have hne : ((n : Int) == 0) = false := by simp; omega
  clear hds hvs ha
  go_enter Try.func5, Try.ntmps5
  go_wp2_with fail
  refine (bytes12_any a (some x) d n c1 c2 w).mono ?_
  rintro e w' ⟨r, rfl, hrt, hw⟩
  obtain rfl := hw.symm
  obtain rfl := hrt (by omega) (by omega)
  clear hrt
  go_wp2_with fail
  refine (clone_any a d c1 ds w (by omega) HA.out).mono ?_
  rintro e w1 ⟨ad, rfl, hnil, rd, b1⟩
  clear HA
  have HN : Hid (ad = none → d = 0) := hnil
  clear hnil
  have rv1 := hr.later b1
  go_wp2_with fail
  refine (clone_some x n c2 vs w1 (by omega) HVS.out rv1).mono ?_
  rintro e w2 ⟨rfl, hg2, b2⟩
  have G2 : Hid (w2.heap[w1.heap.size]? = some (.cells (octs vs).toArray 5 (0, 0))) := hg2
  have cv2 := cells_octs hg2
  rw [HVS.out] at cv2
  have C2 : Hid (∀ j, j < n → w2.cell? ⟨w1.heap.size, 0 + j, none⟩ = some (.int .u8 (vs.getD j 0))) := cv2
  have hlt2 : w1.heap.size < w2.heap.size := (Array.getElem?_eq_some_iff.1 hg2).1
  have rd2 := rd.later b2
  clear hg2 cv2 rd rv1 hr G2
  go_wp2_with fail
  refine (zzname_any ad d n w1.heap.size ds vs w2 (by omega) hn1 (by omega) HDS.out HVS.out hb rd2 HN.out C2.out).mono ?_
  rintro e w3 ⟨ag, cg, rfl, rg, b3⟩
  have rd3 := rd2.later b3
  have C3 : Hid (∀ j, j < n → w3.cell? ⟨w1.heap.size, 0 + j, none⟩ = some (.int .u8 (vs.getD j 0))) := fun j hj => (b3.cell (by exact hlt2)).trans (C2.out j hj)
  clear rd2 C2
  go_wp2_with fail
  refine (dotted_any ad d n w1.heap.size ds vs w3 (by omega) hn1 (by omega) HDS.out HVS.out hb rd3 HN.out C3.out).mono ?_
  rintro e w4 ⟨g, cg', rfl, rw4, b4⟩
  have rg4 := rg.later b4
  have hL : (named ds vs).length = d + (n - 1) := by
    unfold named; rw [List.length_append, List.length_drop, mark_length, HDS.out, HVS.out]
  have HL : Hid ((named ds vs).length = d + (n - 1)) := hL
  clear hL rg rd3 C3
  go_wp2_with fail
  refine (same_yes _ _ (d + (n - 1)) _ _ _ _ (by omega) HL.out rg4 rw4).mono ?_
  rintro e w5 ⟨rfl, k5, rfl⟩
  go_wp2
  go_ret
  exact ⟨rfl, below_drewN (((b1.trans (b2.mono b1.size)).trans (b3.mono (Nat.le_trans b1.size b2.size))).trans (b4.mono (Nat.le_trans b1.size (Nat.le_trans b2.size b3.size)))) _⟩
end Go.Proofs.Qxb6601953a
