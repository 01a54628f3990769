/-
  THE WALK of appendName (20).
-/
import Derived.Test.Qxb6601953aClone
import Derived.Test.Qxb6601953aNames
import Derived.ArgAppend
namespace Go.Proofs.Qxb6601953a
open Go.RowKit Go.Proofs.Qxb6601953a.Names

theorem octet' {xs : List Int} (hb : ∀ j, 0 ≤ xs.getD j 0 ∧ xs.getD j 0 ≤ 255) (p : Nat) : ∃ m : Nat, xs.getD p 0 = (m : Int) ∧ m ≤ 255 :=
  ⟨(xs.getD p 0).toNat, by have := hb p; omega, by have := hb p; omega⟩

theorem octs_append (xs ys : List Int) : octs (xs ++ ys) = octs xs ++ octs ys := by simp [octs]
theorem octs_set (xs : List Int) (j : Nat) (z : Int) : octs (xs.set j z) = (octs xs).set j (.int .u8 z) := by simp [octs, List.map_set]

/-- The call's own row: L octets ys at the head of block g; nothing old has turned. -/
def OwnInv (w : World) (B g L cap : Nat) (ys : List Int) (wr : World) : Prop :=
  wr.ownsRow B 5 1 (.slice (some ⟨g, 0, none⟩) L cap) L (octs ys) ∧ Below B w wr

theorem OwnInv.block {w wr : World} {B g L cap : Nat} {ys : List Int} (h : OwnInv w B g L cap ys wr) : B ≤ g := (h.1.lt g rfl).1
theorem OwnInv.len {w wr : World} {B g L cap : Nat} {ys : List Int} (h : OwnInv w B g L cap ys wr) : ys.length = L := by
  have := h.1.1; rw [octs_length] at this; omega
theorem OwnInv.store {w wr : World} {B g L cap : Nat} {ys : List Int} (h : OwnInv w B g L cap ys wr) (j : Nat) (z : Int) : OwnInv w B g L cap (ys.set j z) (wr.setCell ⟨g, j, none⟩ (.int .u8 z)) :=
  ⟨by rw [octs_set]; exact (h.1.stored j _).1, h.2.setCell (by exact h.block) _⟩
theorem OwnInv.cell {w wr : World} {B g L cap : Nat} {ys : List Int} (h : OwnInv w B g L cap ys wr) (j : Nat) (hj : j < L) : wr.cell? ⟨g, j, none⟩ = some (.int .u8 (ys.getD j 0)) := by
  rw [h.1.cellAt j (by omega), octs_at ys j (by rw [h.len]; exact hj)]
theorem OwnInv.row {w wr : World} {B g L cap : Nat} {ys : List Int} (h : OwnInv w B g L cap ys wr) : RowB wr (some ⟨g, 0, none⟩) ys :=
  fun _ => ⟨g, 0, rfl, fun i hi => by rw [Nat.zero_add]; exact h.cell i (by rw [← h.len]; exact hi)⟩

set_option maxHeartbeats 400000 in
theorem name_long (ad : Option Addr) (d n bv : Nat) (ds vs : List Int) (w : World) (hd : d ≤ 524288) (hn2 : 2 ≤ n) (hn : n ≤ 524288) (hds : ds.length = d) (hvs : vs.length = n) (hb : ∀ j, 0 ≤ vs.getD j 0 ∧ vs.getD j 0 ≤ 255)
    (rd : RowB w ad ds) (hnil : ad = none → d = 0) (hcell : ∀ j, j < n → w.cell? ⟨bv, 0 + j, none⟩ = some (.int .u8 (vs.getD j 0))) :
    Calls Try.prog 20 #[.slice ad d d, .slice (some ⟨bv, 0, none⟩) n n] w fun e w' =>
      ∃ g cap, e = .returned (.slice (some ⟨g, 0, none⟩) (d + (n - 1)) cap) ∧ RowB w' (some ⟨g, 0, none⟩) (named ds vs) ∧ Below w.heap.size w w' := by
  obtain ⟨i0, hi, hz0, hz1, hz2⟩ := info_parts Try.info5
  have HDS : Hid (ds.length = d) := hds
  have HVS : Hid (vs.length = n) := hvs
  have hbw : bv < w.heap.size := World.block_lt_of_cell? w _ (hcell 0 (by omega))
  have n1 : (1 : Int) ≤ (n : Int) := by omega
  have n2 : ¬ n = 1 := by omega
  clear hds hvs
  go_enter Try.func20, Try.ntmps20
  go_wp2_with (at_builtin; refine wpList_append_grows _ rfl _ _ 23 rfl 5 i0 (.int .u8 0) 1 1 Try.underlying23 hi hz0 hz1 hz2 rfl (by decide) ad d d (octs ds) rfl ?c1 ?c2 ?c3 ⟨bv, 1, none⟩ (n - 1) (n - 1) (octs (vs.drop 1)) rfl ?c0 ?c4 ?c5 ?c6 ?c7 ?c8 ?_)
  case c1 => intro h; exact ⟨hnil h, hnil h⟩
  case c2 => rw [octs_length, HDS.out]; omega
  case c3 =>
    intro a ha j u hu
    obtain ⟨hj, rfl⟩ := octs_get _ j u hu
    obtain ⟨b', o', e', hcc⟩ := rd (by omega)
    obtain rfl : a = ⟨b', o', none⟩ := Option.some.inj (ha.symm.trans e')
    rw [Addr.add_lit]
    exact hcc j hj
  case c0 => rw [octs_length, List.length_drop, HVS.out]; omega
  case c4 =>
    intro j u hu
    obtain ⟨hj, rfl⟩ := octs_get _ j u hu
    rw [List.length_drop, HVS.out] at hj
    rw [Addr.add_lit]
    have := hcell (1 + j) (by omega)
    rw [Nat.zero_add] at this
    rw [this]
    simp [List.getD, Nat.add_comm]
  case c5 => exact ints_oneCell _ _
  case c6 => omega
  case c7 => unfold maxLen; omega
  case c8 => omega
  intro v1 w1 hown1 hgrow1
  rw [← octs_append] at hown1
  obtain ⟨g, cap, hv⟩ : ∃ g cap, v1 = .slice (some ⟨g, 0, none⟩) (d + (n - 1)) cap := by
    obtain ⟨_, h | ⟨g, cap, cur, hv, _⟩⟩ := hown1
    · omega
    · exact ⟨g, cap, hv⟩
  rw [hv] at hown1
  rw [hv]
  have I1 : OwnInv w w.heap.size g (d + (n - 1)) cap (ds ++ (Names.mark vs 0).drop 1) w1 := ⟨by rw [mark_zero, List.drop_one]; exact hown1, (Below.refl _ _).grown hgrow1 (Nat.le_refl _) (fun k h => by cases h)⟩
  have C : Hid (∀ j, j < n → w.cell? ⟨bv, 0 + j, none⟩ = some (.int .u8 (vs.getD j 0))) := hcell
  obtain ⟨m0, hm0, hm0'⟩ := octet' hb 0
  have c0 : w1.cell? ⟨bv, 0, none⟩ = some (.int .u8 (m0 : Int)) := by rw [← hm0]; exact (I1.2.cell (by exact hbw)).trans (hcell 0 (by omega))
  have HQ : Hid (posAt vs 1 = 1 + m0) := (by rw [posAt_succ, posAt_zero, hm0]; omega : posAt vs 1 = 1 + m0)
  clear hown1 hgrow1 hv hcell hm0
  go_wp2
  go_loopw [6] (fun off wr => ∃ k q : Nat, q = posAt vs (k + 1) ∧ 1 ≤ q ∧ q ≤ n + 255 ∧ off = .int .i64 q ∧ OwnInv w w.heap.size g (d + (n - 1)) cap (ds ++ (Names.mark vs k).drop 1) wr) (fun off _ => n - (intOf off).toNat)
  case atStart => exact ⟨0, 1 + m0, HQ.out.symm, by omega, by omega, by go_num, I1⟩
  case round =>
    obtain ⟨k, q, hq, hq1, hqn, rfl, I⟩ := hrel
    have HQK : Hid (q = posAt vs (k + 1)) := hq
    clear hq
    by_cases hlt : q < n
    · obtain ⟨m, hm, hm'⟩ := octet' hb q
      have hs : posAt vs (k + 1 + 1) = q + 1 + m := by rw [posAt_succ vs (k + 1), ← HQK.out, hm, Int.toNat_natCast]
      have HS : Hid (posAt vs (k + 1 + 1) = q + 1 + m) := hs
      have g0 : wr.cell? ⟨bv, q, none⟩ = some (.int .u8 (m : Int)) := by
        have := (I.2.cell (p := ⟨bv, 0 + q, none⟩) (by exact hbw)).trans (C.out q hlt)
        rwa [Nat.zero_add, hm] at this
      have l1 : (q : Int) < (n : Int) := by omega
      have hj : (((d : Int) - 1 + (q : Int)).toNat) + 1 = d + q := by omega
      have cw := I.cell ((d : Int) - 1 + (q : Int)).toNat (by omega)
      have fw : wr.frozen? ⟨g, ((d : Int) - 1 + (q : Int)).toNat, none⟩ = false := I.1.frozenAt _
      have IS := I.store ((d : Int) - 1 + (q : Int)).toNat 46
      rw [name_step ds vs k _ (by rw [HDS.out, ← HQK.out]; exact hj)] at IS
      have g0' : (wr.setCell ⟨g, ((d : Int) - 1 + (q : Int)).toNat, none⟩ (.int .u8 46)).cell? ⟨bv, q, none⟩ = some (.int .u8 (m : Int)) :=
        (World.cell?_setCell_other _ _ _ _ (fun h => by have h1 := congrArg Addr.block h; have h2 := I.block; simp only at h1; omega)).trans g0
      clear hm hs hj
      go_wp2
      go_roundw
      case rel => exact ⟨k + 1, q + 1 + m, HS.out.symm, by omega, by omega, by go_num, IS⟩
      case measure => simp [intOf]; omega
    · have l1 : ¬ (q : Int) < (n : Int) := by omega
      have hfin : ds ++ (Names.mark vs k).drop 1 = named ds vs := name_end ds vs k (by rw [← HQK.out, HVS.out]; omega)
      rw [hfin] at I
      clear hfin
      go_wp2
      go_ret
      exact ⟨g, ⟨cap, rfl⟩, I.row, I.2⟩

/-- append of nothing: the slice as it was, the world as it was. -/
theorem append_zero_run (ad : Option Addr) (a : Addr) (d c : Nat) (hnil : ad = none → d = 0) (ty : TypeId) (w : World) : (Builtin.append_ #[23, 23] ty #[.slice ad d d, .slice (some a) 0 c]).run Try.prog w = .ok (.slice ad d d) w := by
  obtain ⟨i0, hi, hz0, hz1, hz2⟩ := info_parts Try.info5
  cases ad with
  | none => obtain rfl := hnil rfl; simp [Builtin.append_, run_underlying Try.underlying23, sizeOf, typeInfo, hi, Builtin.lenOf, Builtin.firstCells, loadCells, loadCellsFrom]
  | some x => simp [Builtin.append_, run_underlying Try.underlying23, sizeOf, typeInfo, hi, Builtin.lenOf, Builtin.firstCells, loadCells, loadCellsFrom, storeCells]

theorem wpList_append_zero (w : World) {ops : Array Oper} {rest : List Oper} {o : Oper} {a : Act} {Q : Exit → Act → World → Prop} (hg : o.guard = none) (s x : Operand)
    (hop : o.op = Op.call { callee := Callee.builtin Builtin.append, args := #[s, x], argTypes := #[23, 23] }) (ad : Option Addr) (y : Addr) (d c : Nat) (hnil : ad = none → d = 0) (hs : a.eval s = .slice ad d d) (hx : a.eval x = .slice (some y) 0 c)
    (hK : wpList Try.prog ops Q rest (a.put o.dst (.slice ad d d)) w) : wpList Try.prog ops Q (o :: rest) a w := by
  refine wpList_plain hg fun K hK' => ?_
  have hrun := append_zero_run ad y d c hnil o.type w
  unfold Oper.wp
  simp only [execOp, hop, resolve, invoke, builtin, Sem.run_bind, Sem.run_pure, Result.andThen_ok, List.map_toArray, List.map_cons, List.map_nil, hs, hx, hrun]
  exact hK' _ _ hK

theorem name_short (ad : Option Addr) (d bv : Nat) (ds vs : List Int) (w : World) (hd : d ≤ 524288) (hvs : vs.length = 1) (hb : ∀ j, 0 ≤ vs.getD j 0 ∧ vs.getD j 0 ≤ 255)
    (rd : RowB w ad ds) (hnil : ad = none → d = 0) (hcell : w.cell? ⟨bv, 0, none⟩ = some (.int .u8 (vs.getD 0 0))) :
    Calls Try.prog 20 #[.slice ad d d, .slice (some ⟨bv, 0, none⟩) 1 1] w fun e w' =>
      e = .returned (.slice ad d d) ∧ RowB w' ad (named ds vs) ∧ w' = w := by
  have hna : named ds vs = ds := by rw [named, List.drop_eq_nil_of_le (by rw [mark_length]; omega), List.append_nil]
  rw [hna]
  clear hna
  obtain ⟨m, hm, hm'⟩ := octet' hb 0
  rw [hm] at hcell
  clear hm hb hvs
  go_enter Try.func20, Try.ntmps20
  go_wp2_with (at_builtin; refine wpList_append_zero _ rfl _ _ rfl ad ⟨bv, 0, none⟩ d 0 hnil rfl rfl ?_)
  go_loop [6] (fun off => off = .int .i64 (1 + m : Nat)) (fun off => (intOf off).toNat)
  case atStart => go_num
  case round =>
    subst hrel
    go_wp2
    go_ret
    exact ⟨rfl, rd, rfl⟩

theorem name_any (ad : Option Addr) (d n bv : Nat) (ds vs : List Int) (w : World) (hd : d ≤ 524288) (hn1 : 1 ≤ n) (hn : n ≤ 524288) (hds : ds.length = d) (hvs : vs.length = n) (hb : ∀ j, 0 ≤ vs.getD j 0 ∧ vs.getD j 0 ≤ 255)
    (rd : RowB w ad ds) (hnil : ad = none → d = 0) (hcell : ∀ j, j < n → w.cell? ⟨bv, 0 + j, none⟩ = some (.int .u8 (vs.getD j 0))) :
    Calls Try.prog 20 #[.slice ad d d, .slice (some ⟨bv, 0, none⟩) n n] w fun e w' =>
      ∃ ag cg, e = .returned (.slice ag (d + (n - 1)) cg) ∧ RowB w' ag (named ds vs) ∧ Below w.heap.size w w' := by
  by_cases h1 : n = 1
  · subst h1
    refine (name_short ad d bv ds vs w hd hvs hb rd hnil (hcell 0 (by omega))).mono ?_
    rintro e w' ⟨he, hr, rfl⟩
    exact ⟨ad, d, he, hr, Below.refl _ _⟩
  · refine (name_long ad d n bv ds vs w hd (by omega) hn hds hvs hb rd hnil hcell).mono ?_
    rintro e w' ⟨g, cap, he, hr, hw⟩
    exact ⟨_, cap, he, hr, hw⟩

theorem zzname_any (ad : Option Addr) (d n bv : Nat) (ds vs : List Int) (w : World) (hd : d ≤ 524288) (hn1 : 1 ≤ n) (hn : n ≤ 524288) (hds : ds.length = d) (hvs : vs.length = n) (hb : ∀ j, 0 ≤ vs.getD j 0 ∧ vs.getD j 0 ≤ 255)
    (rd : RowB w ad ds) (hnil : ad = none → d = 0) (hcell : ∀ j, j < n → w.cell? ⟨bv, 0 + j, none⟩ = some (.int .u8 (vs.getD j 0))) :
    Calls Try.prog 13 #[.slice ad d d, .slice (some ⟨bv, 0, none⟩) n n] w fun e w' =>
      ∃ ag cg, e = .returned (.slice ag (d + (n - 1)) cg) ∧ RowB w' ag (named ds vs) ∧ Below w.heap.size w w' := by
  go_enter Try.func13, Try.ntmps13
  go_wp2_with fail
  refine (name_any ad d n bv ds vs w hd hn1 hn hds hvs hb rd hnil hcell).mono ?_
  rintro e w1 ⟨ag, cg, rfl, hr, hw⟩
  go_wp2
  go_ret
  exact ⟨ag, cg, rfl, hr, hw⟩
end Go.Proofs.Qxb6601953a
