import Derived.Test.Qxb6601953aRows
import Derived.WalkKit
import Derived.WalkSpells
import Derived.WalkLawsBesides
import Derived.Deep.QuietTactic
import Derived.BigQuiet
import Derived.Laws.CopyOwn
namespace Go.Proofs.Qxb6601953a
open Go.RowKit

/-- The slice's address leads to the octets 'xs' (an empty row: nothing is said of the address). -/
def RowB (w : World) (a : Option Addr) (xs : List Int) : Prop :=
  0 < xs.length → ∃ b off, a = some ⟨b, off, none⟩ ∧ ∀ i, i < xs.length → w.cell? ⟨b, off + i, none⟩ = some (.int .u8 (xs.getD i 0))

theorem RowB.nil (w : World) (a : Option Addr) : RowB w a [] := fun h => absurd h (by simp)

theorem RowB.drewN {w : World} {a : Option Addr} {xs : List Int} (h : RowB w a xs) (k : Nat) : RowB (w.drewN k) a xs := h

/-- A row that is there stays there while nothing old is written. -/
theorem RowB.later {w w' : World} {a : Option Addr} {xs : List Int} (h : RowB w a xs) (hb : Below w.heap.size w w') : RowB w' a xs := by
  intro h0
  obtain ⟨b, off, rfl, hc⟩ := h h0
  exact ⟨b, off, rfl, fun i hi => (hb.cell (World.block_lt_of_cell? w _ (hc i hi))).trans (hc i hi)⟩

theorem RowB.of4 {w : World} {b off : Nat} {x0 x1 x2 x3 : Int} (c0 : w.cell? ⟨b, off, none⟩ = some (.int .u8 x0)) (c1 : w.cell? ⟨b, off + 1, none⟩ = some (.int .u8 x1)) (c2 : w.cell? ⟨b, off + 2, none⟩ = some (.int .u8 x2)) (c3 : w.cell? ⟨b, off + 3, none⟩ = some (.int .u8 x3)) :
    RowB w (some ⟨b, off, none⟩) [x0, x1, x2, x3] := by
  intro _
  refine ⟨b, off, rfl, fun i hi => ?_⟩
  match i, hi with
  | 0, _ => exact c0
  | 1, _ => exact c1
  | 2, _ => exact c2
  | 3, _ => exact c3
  | n + 4, h => simp at h; omega

theorem RowB.new4 (w : World) (n : Nat) (hn : n = w.heap.size) (t : TypeId) (x0 x1 x2 x3 : Int) : RowB (w.alloc (.cells #[.int .u8 x0, .int .u8 x1, .int .u8 x2, .int .u8 x3] t)) (some ⟨n, 0, none⟩) [x0, x1, x2, x3] := by
  subst hn; exact RowB.of4 (by simp) (by simp) (by simp) (by simp)

theorem RowB.new5 (w : World) (n : Nat) (hn : n = w.heap.size) (t : TypeId) (h x0 x1 x2 x3 : Int) : RowB (w.alloc (.cells #[.int .u8 h, .int .u8 x0, .int .u8 x1, .int .u8 x2, .int .u8 x3] t)) (some ⟨n, 1, none⟩) [x0, x1, x2, x3] := by
  subst hn; exact RowB.of4 (by simp) (by simp) (by simp) (by simp)

/-- zzSame over two rows of the same octets: true; nothing is written. -/
theorem same_some (b1 o1 b2 o2 n c1 c2 : Nat) (xs : List Int) (w : World) (hn : n ≤ 1073741824) (hx : xs.length = n)
    (h1 : ∀ i, i < n → w.cell? ⟨b1, o1 + i, none⟩ = some (.int .u8 (xs.getD i 0))) (h2 : ∀ i, i < n → w.cell? ⟨b2, o2 + i, none⟩ = some (.int .u8 (xs.getD i 0))) :
    Calls Try.prog 9 #[.slice (some ⟨b1, o1, none⟩) n c1, .slice (some ⟨b2, o2, none⟩) n c2] w fun e w' => e = .returned (.bool true) ∧ ∃ k, w' = w.drewN k := by
  go_enter Try.func9, Try.ntmps9
  go_wp2
  go_loopw [5] (fun k wr => ∃ j m : Nat, j ≤ n ∧ k = .int .i64 j ∧ wr = w.drewN m) (fun k _ => n - (intOf k).toNat)
  case atStart => exact ⟨0, 0, Nat.zero_le _, rfl, rfl⟩
  case round =>
    obtain ⟨j, m, hj, rfl, rfl⟩ := hrel
    by_cases hlt : j < n
    · have g1 := h1 j hlt
      have g2 := h2 j hlt
      have hlt' : (j : Int) < (n : Int) := by omega
      clear h1 h2
      go_wp2
      go_quiet (fail)
      go_wp2
      go_roundw
      case rel => exact ⟨j + 1, _, by omega, by go_num, rfl⟩
      case measure => simp [intOf]; omega
    · go_wp2
      go_ret
      exact ⟨rfl, _, rfl⟩

theorem same_nil (a b : Option Addr) (c1 c2 : Nat) (w : World) :
    Calls Try.prog 9 #[.slice a 0 c1, .slice b 0 c2] w fun e w' => e = .returned (.bool true) ∧ ∃ k, w' = w.drewN k := by
  go_enter Try.func9, Try.ntmps9
  go_wp2
  go_loopw [5] (fun k wr => k = .int .i64 0 ∧ wr = w) (fun k _ => (intOf k).toNat)
  case atStart => exact ⟨rfl, rfl⟩
  case round =>
    obtain ⟨rfl, rfl⟩ := hrel
    go_wp2
    go_ret
    exact ⟨rfl, 0, rfl⟩

theorem same_yes (a b : Option Addr) (n c1 c2 : Nat) (xs : List Int) (w : World) (hn : n ≤ 1073741824) (hx : xs.length = n) (h1 : RowB w a xs) (h2 : RowB w b xs) :
    Calls Try.prog 9 #[.slice a n c1, .slice b n c2] w fun e w' => e = .returned (.bool true) ∧ ∃ k, w' = w.drewN k := by
  by_cases h0 : 0 < xs.length
  · obtain ⟨b1, o1, rfl, g1⟩ := h1 h0
    obtain ⟨b2, o2, rfl, g2⟩ := h2 h0
    exact same_some b1 o1 b2 o2 n c1 c2 xs w hn hx (by rw [← hx]; exact g1) (by rw [← hx]; exact g2)
  · obtain rfl : n = 0 := by omega
    exact same_nil a b c1 c2 w
end Go.Proofs.Qxb6601953a
