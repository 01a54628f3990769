/-
  THE WALK of FnIEListIEWindow (7), where element i is there.
-/
import Derived.Test.Qxb6601953aWindow
namespace Go.Proofs.Qxb6601953a
open Go.RowKit Go.Proofs.Qxb6601953a.Plain

/-- What the loop keeps: the copy's n cells hold octets and may be written; the element's value still stands; nothing old has turned. -/
def WinInv (w : World) (B E n : Nat) (v : Value) (wr : World) : Prop :=
  (∀ q, q < n → ∃ z : Int, wr.cell? ⟨B, q, none⟩ = some (.int .u8 z)) ∧ (∀ q, wr.frozen? ⟨B, q, none⟩ = false) ∧ wr.cell? ⟨E, 1, none⟩ = some v ∧ Below w.heap.size w wr

theorem WinInv.start {w wr : World} {B E n : Nat} {v : Value} {xs : List Int} (hx : xs.length = n) (hg : wr.heap[B]? = some (.cells (octs xs).toArray 5 (0, 0))) (hv : wr.cell? ⟨E, 1, none⟩ = some v) (hb : Below w.heap.size w wr) : WinInv w B E n v wr :=
  ⟨fun q hq => ⟨_, by have := cells_octs hg q (by omega); rwa [Nat.zero_add] at this⟩, fun q => by simp [World.frozen?, hg], hv, hb⟩

theorem WinInv.drewN {w wr : World} {B E n : Nat} {v : Value} (h : WinInv w B E n v wr) (k : Nat) : WinInv w B E n v (wr.drewN k) := ⟨h.1, h.2.1, h.2.2.1, below_drewN h.2.2.2 k⟩

theorem WinInv.store {w wr : World} {B E n : Nat} {v : Value} (h : WinInv w B E n v wr) (hB : w.heap.size ≤ B) (hE : E ≠ B) (q : Nat) (hq : q < n) (z : Int) : WinInv w B E n v (wr.setCell ⟨B, q, none⟩ (.int .u8 z)) := by
  obtain ⟨h1, h2, h3, h4⟩ := h
  obtain ⟨z0, hz0⟩ := h1 q hq
  refine ⟨fun q' hq' => ?_, fun q' => ?_, ?_, h4.setCell (by exact hB) _⟩
  · by_cases e : q' = q
    · subst e; exact ⟨z, World.cell?_setCell_same _ _ _ hz0⟩
    · obtain ⟨z1, hz1⟩ := h1 q' hq'
      exact ⟨z1, (World.cell?_setCell_other _ _ _ _ (fun h => e (by cases h; rfl))).trans hz1⟩
  · rw [World.frozen?_setCell]; exact h2 q'
  · exact (World.cell?_setCell_other _ _ _ _ (fun h => hE (by cases h; rfl))).trans h3

set_option maxHeartbeats 1000000 in
theorem window_found (b o n c i p m : Nat) (t : Int) (xs : List Int) (w : World) (hn : (n : Int) ≤ 1048576) (hx : xs.length = n) (hc : n ≤ c) (hb : ∀ j, 0 ≤ xs.getD j 0 ∧ xs.getD j 0 ≤ 255)
    (hcell : ∀ j, j < n → w.cell? ⟨b, o + j, none⟩ = some (.int .u8 (xs.getD j 0)))
    (hp : offAt xs i = p) (ht : xs.getD p 0 = t) (hm : xs.getD (p + 1) 0 = (m : Int)) (hf : p + 2 + m ≤ n) :
    Calls Try.prog 7 #[.slice (some ⟨b, o, none⟩) n c, .int .i64 i] w fun e w' => e = .returned (.bool true) ∧ Below w.heap.size w w' := by
  have hs : offAt xs (i + 1) = p + 2 + m := by rw [offAt_succ, hp, hm, Int.toNat_natCast]
  have HP : Hid (offAt xs i = p) := hp
  have HT : Hid (xs.getD p 0 = t) := ht
  have HM : Hid (xs.getD (p + 1) 0 = (m : Int)) := hm
  have HX : Hid (xs.length = n) := hx
  have hm' : m ≤ 255 := by have := hb (p + 1); omega
  obtain ⟨i0, hi, hz0, hz1, hz2⟩ := info_parts Try.info5
  go_enter Try.func7, Try.ntmps7
  clear hp ht hm hx
  go_wp2_with (go_at_call 18; refine (bytes18_yes _ _ _ _ _ hn).mono ?_; rintro e w' ⟨rfl, hw⟩; obtain rfl := hw.symm)
  refine (elem_found b o n c i xs _ (by omega) HX.out hc hb hcell (by rw [hs]; exact hf) _ rfl).mono ?_
  rintro e w' ⟨et, q, em, rfl, hq, hem, hw⟩
  obtain rfl := hw.symm
  rw [HP.out] at hq hem
  rw [HM.out] at hem
  subst hq
  subst hem
  obtain ⟨s, hsp⟩ : ∃ s, s = p + 2 := ⟨_, rfl⟩
  rw [← hsp]
  have HSP : Hid (s = p + 2) := hsp
  have hsn : s + m ≤ n := by omega
  clear hsp hs
  go_wp2_with fail
  refine (clone_some ⟨b, o, none⟩ n c xs w (by omega) HX.out (fun _ => ⟨b, o, rfl, by rw [HX.out]; exact hcell⟩)).mono ?_
  rintro e w1 ⟨rfl, hg1, hb1⟩
  have hlt1 : w.heap.size < w1.heap.size := (Array.getElem?_eq_some_iff.1 hg1).1
  have cell1 := cells_octs hg1
  rw [HX.out] at cell1
  have C1 : Hid (∀ j, j < n → w1.cell? ⟨w.heap.size, 0 + j, none⟩ = some (.int .u8 (xs.getD j 0))) := cell1
  have G1 : Hid (w1.heap[w.heap.size]? = some (.cells (octs xs).toArray 5 (0, 0))) := hg1
  clear hg1 cell1 hcell
  go_wp2_with fail
  refine (ie_any w.heap.size 0 n n i p m t xs w1 (by omega) HX.out (Nat.le_refl _) hb C1.out HP.out HT.out HM.out hf _ rfl).mono ?_
  rintro e w2 ⟨ae, rfl, hae, hb2⟩
  have HAE : Hid (0 < m → ae = some ⟨w.heap.size, s, none⟩) := fun h => by rw [hae h, HSP.out]; congr 2; omega
  have hlt2 : w.heap.size < w2.heap.size := Nat.lt_of_lt_of_le hlt1 hb2.size
  have bel2 : Below w.heap.size w w2 := hb1.trans (hb2.mono hb1.size)
  have G2 : Hid (w2.heap[w.heap.size]? = some (.cells (octs xs).toArray 5 (0, 0))) := (hb2.block _ hlt1).trans G1.out
  have cell2 := cells_octs G2.out
  rw [HX.out] at cell2
  have C2 : Hid (∀ j, j < n → w2.cell? ⟨w.heap.size, 0 + j, none⟩ = some (.int .u8 (xs.getD j 0))) := cell2
  have rv : RowB w2 ae ((xs.drop s).take m) := rowB_window HX.out C2.out (fun h => by rw [HAE.out h, Nat.zero_add]) hsn
  have LM : Hid (((xs.drop s).take m).length = m) := (by simp; have := HX.out; omega : ((xs.drop s).take m).length = m)
  clear hae C1 G1 hb2 hb1 cell2
  go_wp2_with fail
  refine (clone_some ⟨w.heap.size, 0, none⟩ n n xs _ (by omega) HX.out (fun _ => ⟨w.heap.size, 0, rfl, fun j hj => (World.cell?_alloc_past _ _ _ hlt2).trans (C2.out j (by rw [← HX.out]; exact hj))⟩)).mono ?_
  rintro e w3 ⟨rfl, hg3, hb3⟩
  have b3 : Below w2.heap.size w2 w3 := ((Below.refl _ _).alloc (Nat.le_refl _) _).trans (hb3.mono (by simp))
  have hlt3 : w2.heap.size + 1 < w3.heap.size := by have := (Array.getElem?_eq_some_iff.1 hg3).1; simpa using this
  have bel3 : Below w.heap.size w w3 := bel2.trans (b3.mono bel2.size)
  have G3 : Hid (w3.heap[w.heap.size]? = some (.cells (octs xs).toArray 5 (0, 0))) := (b3.block _ hlt2).trans G2.out
  have GB : Hid (w3.heap[w2.heap.size + 1]? = some (.cells (octs xs).toArray 5 (0, 0))) := (by simpa using hg3 : w3.heap[w2.heap.size + 1]? = some (.cells (octs xs).toArray 5 (0, 0)))
  have d1 : w3.cell? ⟨w2.heap.size, 1, none⟩ = some (.slice ae m m) := (hb3.cell (by simp)).trans (by simp)
  have rv3 := (rv.later b3).later ((Below.refl _ _).alloc (Nat.le_refl _) (.cells #[.int .u8 170] 5))
  clear rv hg3 hb3 G2 C2
  go_wp2_with (at_builtin; refine wpList_append_grows _ rfl _ _ 23 rfl 5 i0 (.int .u8 0) 1 1 Try.underlying23 hi hz0 hz1 hz2 rfl (by decide) ae m m (octs ((xs.drop s).take m)) rfl ?c1 ?c2 ?c3 ⟨w3.heap.size, 0, none⟩ 1 1 [.int .u8 170] rfl rfl ?c4 ?c5 ?c6 ?c7 ?c8 ?_)
  case c1 =>
    intro h
    by_cases h0 : 0 < m
    · have := HAE.out h0; rw [h] at this; cases this
    · omega
  case c2 => rw [octs_length, LM.out]; omega
  case c3 =>
    intro a ha j u hu
    obtain ⟨hj, rfl⟩ := octs_get _ j u hu
    obtain ⟨b', o', e', hcc⟩ := rv3 (by omega)
    obtain rfl : a = ⟨b', o', none⟩ := Option.some.inj (ha.symm.trans e')
    rw [Addr.add_lit]
    exact hcc j hj
  case c4 => exact cell_one_new _ _ _
  case c5 => intro u hu; simp at hu; subst hu; rfl
  case c6 => omega
  case c7 => unfold maxLen; omega
  case c8 => omega
  intro v4 w4 hown4 hgrow4
  obtain ⟨g, cap, hv⟩ : ∃ g cap, v4 = .slice (some ⟨g, 0, none⟩) (m + 1) cap := by
    obtain ⟨_, h | ⟨g, cap, cur, hv, _⟩⟩ := hown4
    · omega
    · exact ⟨g, cap, hv⟩
  rw [hv]
  have b4 : Below w3.heap.size w3 w4 := ((Below.refl _ _).alloc (Nat.le_refl _) _).grown hgrow4 (by simp) (fun k h => by cases h)
  have hlt4 : w2.heap.size + 1 < w4.heap.size := Nat.lt_of_lt_of_le hlt3 b4.size
  have bel4 : Below w.heap.size w w4 := bel3.trans (b4.mono bel3.size)
  have G4 : Hid (w4.heap[w.heap.size]? = some (.cells (octs xs).toArray 5 (0, 0))) := (b4.block _ (by omega)).trans G3.out
  have GB4 : Hid (w4.heap[w2.heap.size + 1]? = some (.cells (octs xs).toArray 5 (0, 0))) := (b4.block _ (by omega)).trans GB.out
  have d1' : w4.cell? ⟨w2.heap.size, 1, none⟩ = some (.slice ae m m) := (b4.cell (by simp; omega)).trans d1
  have r1 : RowB w4 (some ⟨w.heap.size, 0, none⟩) xs := fun _ => ⟨_, _, rfl, cells_octs G4.out⟩
  have r2 : RowB w4 (some ⟨w2.heap.size + 1, 0, none⟩) xs := fun _ => ⟨_, _, rfl, cells_octs GB4.out⟩
  clear hown4 hgrow4 hv d1 rv3 G3 GB b3 b4
  go_wp2_with fail
  refine (same_yes _ _ n _ _ _ _ (by omega) HX.out r1 r2).mono ?_
  rintro e w5 ⟨rfl, k5, rfl⟩
  have I5 : WinInv w w.heap.size w2.heap.size n (.slice ae m m) (w4.drewN k5) := (WinInv.start HX.out G4.out d1' bel4).drewN k5
  clear r1 r2 G4 GB4 bel4
  go_wp2_with fail
  have hne : w2.heap.size ≠ w.heap.size := by omega
  go_loopw [12] (fun j wr => ∃ k : Nat, k ≤ m ∧ j = .int .i64 k ∧ WinInv w w.heap.size w2.heap.size n (.slice ae m m) wr) (fun j _ => m - (intOf j).toNat)
  case atStart => exact ⟨0, Nat.zero_le _, rfl, I5⟩
  case round =>
    obtain ⟨k, hk, rfl, I⟩ := hrel
    by_cases hlt : k < m
    · have e1 := HAE.out (by omega)
      obtain ⟨z, hz⟩ := I.1 (s + k) (by omega)
      have hfz := I.2.1 (s + k)
      have he := I.2.2.1
      rw [e1] at he
      have l1 : (k : Int) < (m : Int) := by omega
      have l2 : (s : Int) + (k : Int) < (n : Int) := by omega
      have IS := I.store (Nat.le_refl _) hne (s + k) (by omega) (bits BinOp.xor IntKind.u8 z 255)
      have f1 : (wr.setCell ⟨w.heap.size, s + k, none⟩ (.int .u8 (bits BinOp.xor IntKind.u8 z 255))).cell? ⟨w.heap.size, s + k, none⟩ = some (.int .u8 (bits BinOp.xor IntKind.u8 z 255)) := World.cell?_setCell_same _ _ _ hz
      have f2 := IS.2.2.1
      rw [e1] at f2
      clear e1
      go_wp2
      go_quiet (fail)
      go_wp2
      go_roundw
      case rel => exact ⟨k + 1, by omega, by go_num, IS.drewN _⟩
      case measure => simp [intOf]; omega
    · have l1 : ¬ (k : Int) < (m : Int) := by omega
      go_wp2
      go_ret
      exact ⟨rfl, I.2.2.2⟩
end Go.Proofs.Qxb6601953a
