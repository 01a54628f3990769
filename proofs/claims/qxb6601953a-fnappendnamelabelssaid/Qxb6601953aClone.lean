/-
  THE WALK of zzClone (11).
-/
import Derived.Test.Qxb6601953aBase
namespace Go.Proofs.Qxb6601953a
open Go.RowKit

theorem Try.info5 : (Try.prog.info? 5).map (fun i => (i.zero, i.size, i.bytes)) = some (some (.int .u8 0), 1, 1) := by kernel_rfl
theorem Try.size5 : (Try.prog.info? 5).map (·.size) = some 1 := by kernel_rfl

/-- The octets as cells. -/
def octs (xs : List Int) : List Value := xs.map (Value.int .u8)
theorem octs_length (xs : List Int) : (octs xs).length = xs.length := by simp [octs]
theorem octs_get (xs : List Int) (j : Nat) (u : Value) (h : (octs xs)[j]? = some u) : j < xs.length ∧ u = .int .u8 (xs.getD j 0) := by
  unfold octs at h
  rw [List.getElem?_map] at h
  obtain ⟨z, hz, rfl⟩ := Option.map_eq_some_iff.1 h
  obtain ⟨hj, rfl⟩ := List.getElem?_eq_some_iff.1 hz
  exact ⟨hj, by simp [List.getD, hj]⟩
theorem octs_at (xs : List Int) (j : Nat) (h : j < xs.length) : (octs xs)[j]? = some (.int .u8 (xs.getD j 0)) := by
  simp [octs, List.getD, h]

theorem clone_nil (w : World) : Calls Try.prog 11 #[.slice none 0 0] w fun e w' => e = .returned (.slice none 0 0) ∧ w' = w := by
  have q23 : ∀ (w : World) (a : Option Addr) (n c n' c' : Nat), (binOp .eql 23 (.slice a n c) (.slice none n' c')).run Try.prog w = .ok (.bool a.isNone) w := fun w a n c n' c' => Lib.run_eql_slice_nil w _ _ a n c n' c' Try.underlying23
  go_enter Try.func11, Try.ntmps11
  go_wp2
  go_ret
  exact ⟨rfl, rfl⟩

theorem copy_run (w0 : World) (g n c : Nat) (x : Addr) (cur : Array Value) (xs : List Int) (hx : xs.length = n) (hg : w0.heap[g]? = some (.cells cur 5 (0, 0))) (hcs : cur.size = n) (hr : RowB w0 (some x) xs) :
    ∃ w2, (Builtin.copy_ #[23, 23] 3 #[.slice (some ⟨g, 0, none⟩) n n, .slice (some x) n c]).run Try.prog w0 = .ok (.int .i64 n) w2 ∧ w2.heap[g]? = some (.cells (octs xs).toArray 5 (0, 0)) ∧ Below g w0 w2 := by
  by_cases h0 : n = 0
  · subst h0
    refine ⟨w0, run_copy_none (P := Try.prog) w0 23 23 3 5 _ _ 0 0 0 c Try.underlying23 Try.size5 rfl, ?_, Below.refl _ _⟩
    obtain rfl : xs = [] := List.eq_nil_of_length_eq_zero hx
    obtain rfl : cur = #[] := Array.eq_empty_of_size_eq_zero hcs
    exact hg
  · obtain ⟨b, off, e, hc⟩ := hr (by omega)
    obtain rfl := Option.some.inj e
    have hrun := run_copy_row (P := Try.prog) w0 23 23 3 5 g 0 n n ⟨b, off, none⟩ n c cur 5 (octs xs) Try.underlying23 Try.size5 hg (by rw [octs_length, hx]; simp) (fun j v hv => by
      obtain ⟨hj, rfl⟩ := octs_get xs j v hv
      rw [Addr.add_lit]; exact hc j hj) (by rw [octs_length]; omega) (ints_oneCell _ _)
    have hl : (octs xs).length = n := by rw [octs_length, hx]
    have el : List.take 0 cur.toList ++ octs xs ++ List.drop (0 + (octs xs).length) cur.toList = octs xs := by
      rw [hl, List.drop_eq_nil_of_le (by simp; omega)]; simp
    rw [el, hl] at hrun
    exact ⟨w0.setRow g (octs xs).toArray, hrun, setRow_heap w0 g _ _ 5 _ hg, below_setRow (Below.refl _ _) (Nat.le_refl _) _⟩

theorem clone_some (x : Addr) (n c : Nat) (xs : List Int) (w : World) (hn : n ≤ 1073741824) (hx : xs.length = n) (hr : RowB w (some x) xs) :
    Calls Try.prog 11 #[.slice (some x) n c] w fun e w' => e = .returned (.slice (some ⟨w.heap.size, 0, none⟩) n n) ∧
      w'.heap[w.heap.size]? = some (.cells (octs xs).toArray 5 (0, 0)) ∧ Below w.heap.size w w' := by
  have q23 : ∀ (w : World) (a : Option Addr) (n c n' c' : Nat), (binOp .eql 23 (.slice a n c) (.slice none n' c')).run Try.prog w = .ok (.bool a.isNone) w := fun w a n c n' c' => Lib.run_eql_slice_nil w _ _ a n c n' c' Try.underlying23
  obtain ⟨i0, hi, hz0, hz1, hz2⟩ := info_parts Try.info5
  go_enter Try.func11, Try.ntmps11
  go_wp2_with (at_make; refine wpList_make_full _ rfl _ _ 23 rfl w.heap.size 5 i0 (.int .u8 0) 1 Try.underlying23 hi hz0 hz1 _ _ _ _ n rfl rfl rfl rfl ?b2 ?b3 (Nat.le_refl _) ?_)
  case b2 => rw [hz2]; omega
  case b3 => unfold maxLen; omega
  intro w0 hown0 hgrow0
  obtain ⟨hlen, h | ⟨g, cap, cur, hv, _, hg, _, _, hcs, htake⟩⟩ := hown0
  · simp at h
  simp at hv
  obtain ⟨rfl, rfl⟩ := hv
  have hb0 : Below w.heap.size w w0 := (Below.refl _ _).grown hgrow0 (Nat.le_refl _) (fun k h => by cases h)
  obtain ⟨w2, hrun, hg2, hb2⟩ := copy_run w0 w.heap.size n c x cur xs hx hg (by omega) (hr.later hb0)
  have HG : Hid (w2.heap[w.heap.size]? = some (.cells (octs xs).toArray 5 (0, 0))) := hg2
  clear hlen htake hg hg2 hcs
  go_wp2
  go_ret
  exact ⟨rfl, HG.out, hb0.trans hb2⟩

/-- The cells of a row that is known whole. -/
theorem cells_octs {w : World} {g : Nat} {xs : List Int} (h : w.heap[g]? = some (.cells (octs xs).toArray 5 (0, 0))) : ∀ j, j < xs.length → w.cell? ⟨g, 0 + j, none⟩ = some (.int .u8 (xs.getD j 0)) := by
  intro j hj
  rw [Nat.zero_add, cell_of_row w g j _ 5 (0, 0) h]
  rw [List.getElem?_toArray, octs_at xs j hj]
end Go.Proofs.Qxb6601953a
