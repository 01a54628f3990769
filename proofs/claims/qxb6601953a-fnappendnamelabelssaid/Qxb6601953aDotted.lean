/-
  THE WALK of zzDotted (14).
-/
import Derived.Test.Qxb6601953aAppName
namespace Go.Proofs.Qxb6601953a
open Go.RowKit Go.Proofs.Qxb6601953a.Names

/-- The octets of 'v[q:q+e]', wherever the cut is laid. -/
theorem win_cells {w wr : World} {bv n q e : Nat} {vs : List Int} (hvs : vs.length = n) (C : ∀ j, j < n → w.cell? ⟨bv, 0 + j, none⟩ = some (.int .u8 (vs.getD j 0))) (hbw : bv < w.heap.size) (hbel : Below w.heap.size w wr) (he : q + e ≤ n)
    {ao : Option Addr} (hao : ¬ n = q → ao = some ⟨bv, q, none⟩) : ∀ ad, ao = some ad → ∀ j u, (octs ((vs.drop q).take e))[j]? = some u → wr.cell? (ad.add j) = some u := by
  intro ad had j u hu
  obtain ⟨hj, rfl⟩ := octs_get _ j u hu
  rw [List.length_take, List.length_drop, hvs] at hj
  obtain rfl := Option.some.inj (had.symm.trans (hao (by omega)))
  rw [Addr.add_lit]
  have := (hbel.cell (p := ⟨bv, 0 + (q + j), none⟩) (by exact hbw)).trans (C (q + j) (by omega))
  rw [Nat.zero_add] at this
  rw [this]
  have hj' : j < e := by omega
  simp [List.getD, hj']

theorem win_len {n q e : Nat} {vs : List Int} (hvs : vs.length = n) (he : q + e ≤ n) : (octs ((vs.drop q).take e)).length = e * 1 := by
  rw [octs_length, List.length_take, List.length_drop, hvs]; omega

theorem OwnInv.app {w wr w1 : World} {B g L L' e cap : Nat} {ys zs ys' : List Int} (h : OwnInv w B g L cap ys wr) (hB : B ≤ wr.heap.size) (ho : w1.ownsRow B 5 1 (.slice (some ⟨g, 0, none⟩) (L + e) cap) (L + e) (octs ys ++ octs zs)) (hg : wr.grownBy w1 (some g))
    (hL : L + e = L') (hy : ys ++ zs = ys') : OwnInv w B g L' cap ys' w1 := by
  subst hL; subst hy
  refine ⟨by rw [octs_append]; exact ho, h.2.grown hg hB (fun k hk => by cases hk; exact h.block)⟩

set_option maxHeartbeats 1000000 in
theorem dotted_any (ad : Option Addr) (d n bv : Nat) (ds vs : List Int) (w : World) (hd : d ≤ 524288) (hn1 : 1 ≤ n) (hn : n ≤ 524288) (hds : ds.length = d) (hvs : vs.length = n) (hb : ∀ j, 0 ≤ vs.getD j 0 ∧ vs.getD j 0 ≤ 255)
    (rd : RowB w ad ds) (hnil : ad = none → d = 0) (hcell : ∀ j, j < n → w.cell? ⟨bv, 0 + j, none⟩ = some (.int .u8 (vs.getD j 0))) :
    Calls Try.prog 14 #[.slice ad d d, .slice (some ⟨bv, 0, none⟩) n n] w fun e w' =>
      ∃ g cg, e = .returned (.slice (some ⟨g, 0, none⟩) (d + (n - 1)) cg) ∧ RowB w' (some ⟨g, 0, none⟩) (named ds vs) ∧ Below w.heap.size w w' := by
  obtain ⟨i0, hi, hz0, hz1, hz2⟩ := info_parts Try.info5
  have HDS : Hid (ds.length = d) := hds
  have HVS : Hid (vs.length = n) := hvs
  have hbw : bv < w.heap.size := World.block_lt_of_cell? w _ (hcell 0 (by omega))
  clear hds hvs
  go_enter Try.func14, Try.ntmps14
  go_wp2_with (at_make; refine wpList_make_own _ rfl _ _ 23 rfl w.heap.size 5 i0 (.int .u8 0) 1 Try.underlying23 hi hz0 hz1 _ _ _ (d + n) rfl rfl (by omega) ?b2 ?b3 (Nat.le_refl _) ?_)
  case b2 => rw [hz2]; omega
  case b3 => unfold maxLen; omega
  intro w0 hown0 hgrow0
  have b0 : Below w.heap.size w w0 := (Below.refl _ _).grown hgrow0 (Nat.le_refl _) (fun k h => by cases h)
  have rd0 := rd.later b0
  go_wp2_with (at_builtin; refine wpList_append_fits_any _ rfl (.tmp 15) (.tmp 16) 23 rfl w.heap.size 5 i0 1 Try.underlying23 hi hz1 w.heap.size 0 (d + n) [] rfl hown0 ad d d (octs ds) rfl ?c0 ?c1 ?c2 (ints_oneCell _ _) ?c3 ?_)
  case c0 => rw [octs_length, HDS.out]; omega
  case c1 => intro h; exact ⟨hnil h, hnil h⟩
  case c2 =>
    intro a ha j u hu
    obtain ⟨hj, rfl⟩ := octs_get _ j u hu
    obtain ⟨b', o', e', hcc⟩ := rd0 (by omega)
    obtain rfl : a = ⟨b', o', none⟩ := Option.some.inj (ha.symm.trans e')
    rw [Addr.add_lit]
    exact hcc j hj
  case c3 => omega
  intro w1 hown1 hgrow1
  have I1 : OwnInv w w.heap.size w.heap.size d (d + n) (Names.part ds vs 0) w1 := ⟨by rw [part_zero]; exact hown1, b0.grown hgrow1 b0.size (fun k h => by cases h; exact Nat.le_refl _)⟩
  have C : Hid (∀ j, j < n → w.cell? ⟨bv, 0 + j, none⟩ = some (.int .u8 (vs.getD j 0))) := hcell
  clear hown0 hgrow0 hown1 hgrow1 rd0 b0 hcell rd
  go_wp2
  go_loopw [5, 6] (fun out pos wr => ∃ k p L : Nat, p = posAt vs k ∧ L = d + (min p n - 1) ∧ p ≤ n + 255 ∧ pos = .int .i64 p ∧ out = .slice (some ⟨w.heap.size, 0, none⟩) L (d + n) ∧ OwnInv w w.heap.size w.heap.size L (d + n) (Names.part ds vs k) wr) (fun _ pos _ => n - (intOf pos).toNat)
  case atStart => exact ⟨0, 0, d, rfl, by omega, by omega, rfl, rfl, I1⟩
  case round =>
    obtain ⟨k, p, L, hp, hL, hpn, rfl, rfl, I⟩ := hrel
    by_cases hlt : p < n
    · obtain ⟨m, hm, hm'⟩ := octet' hb p
      have HS : Hid (posAt vs (k + 1) = p + 1 + m) := (by rw [posAt_succ, ← hp, hm, Int.toNat_natCast] : posAt vs (k + 1) = p + 1 + m)
      have g0 : wr.cell? ⟨bv, p, none⟩ = some (.int .u8 (m : Int)) := by
        have := (I.2.cell (p := ⟨bv, 0 + p, none⟩) (by exact hbw)).trans (C.out p hlt)
        rwa [Nat.zero_add, hm] at this
      have l1 : (p : Int) < (n : Int) := by omega
      clear hm
      cases k with
      | zero =>
        obtain rfl : p = 0 := hp
        obtain rfl : d = L := by omega
        clear hL
        by_cases hend : 1 + m ≤ n
        · have l2 : (1 : Int) + (m : Int) ≤ (n : Int) := by omega
          go_wp2_with (at_builtin; refine wpList_append_fits_any _ rfl (.tmp 42) (.tmp 47) 23 rfl w.heap.size 5 i0 1 Try.underlying23 hi hz1 w.heap.size d (d + n) (octs (Names.part ds vs 0)) rfl I.1 _ (1 + m - 1) _ (octs ((vs.drop 1).take (1 + m - 1))) rfl (win_len HVS.out (by omega)) ?_ ?_ (ints_oneCell _ _) (by omega) ?_; (intro h; split at h <;> cases h); (exact win_cells HVS.out C.out hbw I.2 (by omega) (by intro h; rw [if_neg h])); intro w2 hown2 hgrow2)
          have I2 : OwnInv w w.heap.size w.heap.size (d + m) (d + n) (Names.part ds vs 1) w2 := I.app I.2.size hown2 hgrow2 (by omega) (by rw [part_zero]; exact (part_first ds vs (1 + m - 1) (by rw [HS.out, HVS.out]; omega)).symm)
          clear hown2 hgrow2
          go_roundw
          case rel => exact ⟨1, 1 + m, d + m, by rw [HS.out], by omega, by omega, by go_num, rfl, I2⟩
          case measure => simp [intOf]; omega
        · have l2 : (n : Int) < (1 : Int) + (m : Int) := by omega
          go_wp2_with (at_builtin; refine wpList_append_fits_any _ rfl (.tmp 42) (.tmp 47) 23 rfl w.heap.size 5 i0 1 Try.underlying23 hi hz1 w.heap.size d (d + n) (octs (Names.part ds vs 0)) rfl I.1 _ (n - 1) _ (octs ((vs.drop 1).take (n - 1))) rfl (win_len HVS.out (by omega)) ?_ ?_ (ints_oneCell _ _) (by omega) ?_; (intro h; split at h <;> cases h); (exact win_cells HVS.out C.out hbw I.2 (by omega) (by intro h; rw [if_neg h])); intro w2 hown2 hgrow2)
          have I2 : OwnInv w w.heap.size w.heap.size (d + (n - 1)) (d + n) (Names.part ds vs 1) w2 := I.app I.2.size hown2 hgrow2 (by omega) (by rw [part_zero]; exact (part_first ds vs (n - 1) (by rw [HS.out, HVS.out]; omega)).symm)
          clear hown2 hgrow2
          go_roundw
          case rel => exact ⟨1, 1 + m, d + (n - 1), by rw [HS.out], by omega, by omega, by go_num, rfl, I2⟩
          case measure => simp [intOf]; omega
      | succ k =>
        have hp1 : 1 ≤ p := by have := posAt_ge vs (k + 1); omega
        have HP : Hid (p = posAt vs (k + 1)) := hp
        have HL : Hid (L + 1 = d + p) := (by omega : L + 1 = d + p)
        have l0 : (0 : Int) < (p : Int) := by omega
        clear hp hL
        by_cases hend : p + 1 + m ≤ n
        · have l2 : (p : Int) + 1 + (m : Int) ≤ (n : Int) := by omega
          go_wp2_with (first
            | (at_builtin; refine wpList_append_fits _ rfl (.tmp 29) (.tmp 30) 23 rfl w.heap.size 5 i0 1 Try.underlying23 hi hz1 w.heap.size L (d + n) (octs (Names.part ds vs (k + 1))) rfl (I.1.alloc _) ⟨wr.heap.size, 0, none⟩ 1 1 [.int .u8 46] rfl rfl (cell_one_new _ _ _) (ints_oneCell .u8 [46]) (by have := HL.out; omega) ?_; intro w2 hown2 hgrow2; have b2 : Below w.heap.size w w2 := (I.2.alloc I.2.size _).grown hgrow2 (by simp; have := I.2.size; omega) (fun k hk => by cases hk; exact Nat.le_refl _))
            | (at_builtin; refine wpList_append_fits_any _ rfl (.tmp 42) (.tmp 47) 23 rfl w.heap.size 5 i0 1 Try.underlying23 hi hz1 w.heap.size (L + 1) (d + n) _ rfl hown2 _ (p + 1 + m - (p + 1)) _ (octs ((vs.drop (p + 1)).take (p + 1 + m - (p + 1)))) rfl (win_len HVS.out (by omega)) ?_ ?_ (ints_oneCell _ _) (by have := HL.out; omega) ?_; (intro h; split at h <;> cases h); (exact win_cells HVS.out C.out hbw b2 (by omega) (by intro h; rw [if_neg h])); intro w3 hown3 hgrow3))
          have J2 : OwnInv w w.heap.size w.heap.size (L + 1) (d + n) (Names.part ds vs (k + 1) ++ [46]) w2 := ⟨by rw [octs_append]; exact hown2, b2⟩
          have hpart : Names.part ds vs (k + 1) ++ [46] ++ (vs.drop (p + 1)).take (p + 1 + m - (p + 1)) = Names.part ds vs (k + 1 + 1) := by
            have := part_next ds vs k (p + 1 + m - (p + 1)) (by rw [← HP.out, HVS.out]; exact hlt) (by rw [HS.out, HVS.out, ← HP.out]; omega)
            rw [← HP.out] at this
            exact this.symm
          have I3 : OwnInv w w.heap.size w.heap.size (L + 1 + m) (d + n) (Names.part ds vs (k + 1 + 1)) w3 := J2.app b2.size (by rw [octs_append]; exact hown3) hgrow3 (by omega) hpart
          clear hown2 hgrow2 hown3 hgrow3 hpart J2
          go_roundw
          case rel => exact ⟨k + 1 + 1, p + 1 + m, (L + 1 + m), by rw [HS.out], by have := HL.out; omega, by omega, by go_num, rfl, I3⟩
          case measure => simp [intOf]; omega
        · have l2 : (n : Int) < (p : Int) + 1 + (m : Int) := by omega
          go_wp2_with (first
            | (at_builtin; refine wpList_append_fits _ rfl (.tmp 29) (.tmp 30) 23 rfl w.heap.size 5 i0 1 Try.underlying23 hi hz1 w.heap.size L (d + n) (octs (Names.part ds vs (k + 1))) rfl (I.1.alloc _) ⟨wr.heap.size, 0, none⟩ 1 1 [.int .u8 46] rfl rfl (cell_one_new _ _ _) (ints_oneCell .u8 [46]) (by have := HL.out; omega) ?_; intro w2 hown2 hgrow2; have b2 : Below w.heap.size w w2 := (I.2.alloc I.2.size _).grown hgrow2 (by simp; have := I.2.size; omega) (fun k hk => by cases hk; exact Nat.le_refl _))
            | (at_builtin; refine wpList_append_fits_any _ rfl (.tmp 42) (.tmp 47) 23 rfl w.heap.size 5 i0 1 Try.underlying23 hi hz1 w.heap.size (L + 1) (d + n) _ rfl hown2 _ (n - (p + 1)) _ (octs ((vs.drop (p + 1)).take (n - (p + 1)))) rfl (win_len HVS.out (by omega)) ?_ ?_ (ints_oneCell _ _) (by have := HL.out; omega) ?_; (intro h; split at h <;> cases h); (exact win_cells HVS.out C.out hbw b2 (by omega) (by intro h; rw [if_neg h])); intro w3 hown3 hgrow3))
          have J2 : OwnInv w w.heap.size w.heap.size (L + 1) (d + n) (Names.part ds vs (k + 1) ++ [46]) w2 := ⟨by rw [octs_append]; exact hown2, b2⟩
          have hpart : Names.part ds vs (k + 1) ++ [46] ++ (vs.drop (p + 1)).take (n - (p + 1)) = Names.part ds vs (k + 1 + 1) := by
            have := part_next ds vs k (n - (p + 1)) (by rw [← HP.out, HVS.out]; exact hlt) (by rw [HS.out, HVS.out, ← HP.out]; omega)
            rw [← HP.out] at this
            exact this.symm
          have I3 : OwnInv w w.heap.size w.heap.size (L + 1 + (n - (p + 1))) (d + n) (Names.part ds vs (k + 1 + 1)) w3 := J2.app b2.size (by rw [octs_append]; exact hown3) hgrow3 (by omega) hpart
          clear hown2 hgrow2 hown3 hgrow3 hpart J2
          go_roundw
          case rel => exact ⟨k + 1 + 1, p + 1 + m, (L + 1 + (n - (p + 1))), by rw [HS.out], by have := HL.out; omega, by omega, by go_num, rfl, I3⟩
          case measure => simp [intOf]; omega
    · have l1 : ¬ (p : Int) < (n : Int) := by omega
      have hfin : Names.part ds vs k = named ds vs := part_end ds vs k (by rw [HVS.out]; omega) (by rw [← hp, HVS.out]; omega)
      rw [hfin] at I
      have hL2 : d + (n - 1) = L := by omega
      have HL : Hid (d + (n - 1) = L) := hL2
      clear hfin hL hL2 hp
      go_wp2
      go_ret
      rw [HL.out]
      exact ⟨_, ⟨_, rfl⟩, I.row, I.2⟩
end Go.Proofs.Qxb6601953a
