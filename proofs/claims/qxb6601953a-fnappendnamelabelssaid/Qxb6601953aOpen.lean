/-
  A slice of octets that came in, as the walks take it.
-/
import Derived.Test.Qxb6601953aBase
import Derived.OpenShut
namespace Go.Proofs.Qxb6601953a
open Go.RowKit

/-- Nil; or an address, the elements, their cells, their bounds. -/
theorem row_open {w : World} {a : Option Addr} {len cap : Nat} {zs : List Int}
    (h : (a = none ∧ len = 0 ∧ cap = 0 ∧ zs = []) ∨ ∃ x, a = some x ∧ len ≤ cap ∧ cap ≤ maxLen ∧ zs.length = cap ∧ (∀ i, i < zs.length → w.cell? (x.add i) = some (.int .u8 (zs.getD i 0))) ∧ ∀ n ∈ zs, (Lit.int .u8 n).wf = true) :
    (a = none ∧ len = 0 ∧ cap = 0) ∨ ∃ x xs, a = some x ∧ len ≤ cap ∧ xs.length = len ∧ RowB w (some x) xs ∧ ∀ j, 0 ≤ xs.getD j 0 ∧ xs.getD j 0 ≤ 255 := by
  rcases h with ⟨rfl, rfl, rfl, rfl⟩ | ⟨x, rfl, hl, hm, hz, hcell, hwz⟩
  · exact .inl ⟨rfl, rfl, rfl⟩
  · refine .inr ⟨x, zs.take len, rfl, hl, by simp; omega, ?_, ?_⟩
    · intro h0
      have h0' : 0 < len := by simp at h0; omega
      have hspot : x.spot = none := by
        have hc := hcell 0 (by omega)
        obtain ⟨b, off, spot⟩ := x
        simpa [Addr.add] using World.cell?_spot hc
      obtain ⟨b, off, spot⟩ := x
      simp only at hspot
      subst hspot
      refine ⟨b, off, rfl, fun i hi => ?_⟩
      have hi' : i < len := by simp at hi; omega
      have := hcell i (by omega)
      rw [Addr.add_lit] at this
      rw [this]
      congr 2
      simp [List.getD, hi']
    · intro j
      have := range_u8 (zs := zs.take len) (fun n hn => hwz n (List.mem_of_mem_take hn)) j
      simpa [List.getD] using this

end Go.Proofs.Qxb6601953a
