/-
  THE WALK of (IEList).IE (17).
-/
import Derived.Test.Qxb6601953aElem
import Derived.RegionTactic
import Derived.ChangeAlike
namespace Go.Proofs.Qxb6601953a
open Go.RowKit Go.Proofs.Qxb6601953a.Plain

set_option maxHeartbeats 400000 in
theorem ie_any (b o n c i p m : Nat) (t : Int) (xs : List Int) (w : World) (hn : n ≤ 1073741824) (hx : xs.length = n) (hc : n ≤ c) (hb : ∀ j, 0 ≤ xs.getD j 0 ∧ xs.getD j 0 ≤ 255)
    (hcell : ∀ j, j < n → w.cell? ⟨b, o + j, none⟩ = some (.int .u8 (xs.getD j 0))) (hp : offAt xs i = p) (ht : xs.getD p 0 = t) (hm : xs.getD (p + 1) 0 = (m : Int)) (hf : p + 2 + m ≤ n) (I : Int) (hI : I = (i : Int)) :
    Calls Try.prog 17 #[.slice (some ⟨b, o, none⟩) n c, .int .i64 I] w fun e w' =>
      ∃ ao, e = .returned (.agg #[.int .u8 t, .slice ao m m]) ∧ (0 < m → ao = some ⟨b, o + p + 2, none⟩) ∧ Below w.heap.size w w' := by
  subst hI
  have hbw : b < w.heap.size := World.block_lt_of_cell? w _ (hcell 0 (by omega))
  have hm' : m ≤ 255 := by have := hb (p + 1); omega
  have HP : Hid (offAt xs i = p) := hp
  have HT : Hid (xs.getD p 0 = t) := ht
  have HM : Hid (xs.getD (p + 1) 0 = (m : Int)) := hm
  have hip : i ≤ n := by have := offAt_two xs i; omega
  clear hp ht hm
  go_enter Try.func17, Try.ntmps17
  go_wp2
  go_loop [1, 5] (fun ii off => ∃ k q : Nat, k ≤ i ∧ q = offAt xs k ∧ ii = .int .i64 (i - k : Nat) ∧ off = .int .i64 q) (fun ii _ => (intOf ii).toNat)
  case atStart => exact ⟨0, 0, Nat.zero_le _, rfl, rfl, rfl⟩
  case round =>
    obtain ⟨k, q, hk, hq, rfl, rfl⟩ := hrel
    by_cases hki : k < i
    · have h1 := offAt_le xs (k + 1) i (by omega)
      rw [HP.out] at h1
      obtain ⟨mk, hmk, hmk'⟩ := octet hb (q + 1)
      have hs : offAt xs (k + 1) = q + 2 + mk := by rw [offAt_succ, ← hq, hmk, Int.toNat_natCast]
      rw [hs] at h1
      have g1 := hcell (q + 1) (by omega)
      rw [hmk] at g1
      have HS : Hid (offAt xs (k + 1) = q + 2 + mk) := hs
      have l1 : (0 : Int) < ((i - k : Nat) : Int) := by omega
      clear hq hmk hs hcell hb
      go_wp2
      go_round
      case rel => exact ⟨k + 1, q + 2 + mk, by omega, HS.out.symm, by go_num, by go_num⟩
      case measure => simp [intOf]; omega
    · obtain rfl : k = i := by omega
      rw [HP.out] at hq
      subst hq
      have g0 := hcell q (by omega)
      have g1 := hcell (q + 1) (by omega)
      rw [HT.out] at g0
      rw [HM.out] at g1
      rw [show k - k = 0 by omega]
      clear hcell hb
      go_wp2
      go_region
      go_wp2
      · exact bodyPost_ret (v := .agg #[.int .u8 t, .slice (some ⟨b, o, none⟩) 0 0]) (by simp [results, Try.results17, go_sem]) rfl ⟨⟨_, rfl⟩, ((Below.refl _ _).alloc (Nat.le_refl _) _).drew⟩
      · exact bodyPost_ret (v := .agg #[.int .u8 t, .slice (some ⟨b, o + (q + 2), none⟩) m m]) (by simp [results, Try.results17, go_sem]) rfl ⟨_, rfl, fun _ => by rw [Nat.add_assoc], ((Below.refl _ _).alloc (Nat.le_refl _) _).drew⟩

/-- The window of m octets at place p of a row. -/
theorem rowB_window {b o n p m : Nat} {xs : List Int} {w : World} {ao : Option Addr} (hx : xs.length = n) (hcell : ∀ j, j < n → w.cell? ⟨b, o + j, none⟩ = some (.int .u8 (xs.getD j 0)))
    (hao : 0 < m → ao = some ⟨b, o + p, none⟩) (hf : p + m ≤ n) : RowB w ao ((xs.drop p).take m) := by
  intro h0
  have hl : ((xs.drop p).take m).length = m := by simp; omega
  rw [hl] at h0
  refine ⟨b, o + p, hao h0, fun i hi => ?_⟩
  rw [hl] at hi
  rw [Nat.add_assoc, hcell (p + i) (by omega)]
  congr 2
  simp [List.getD, hi]

theorem bcell {W w1 : World} (hb : Below W.heap.size W w1) : (∀ b o, b < W.heap.size → w1.cell? ⟨b, o, none⟩ = W.cell? ⟨b, o, none⟩) :=
  fun b o h => hb.cell (p := ⟨b, o, none⟩) h
end Go.Proofs.Qxb6601953a
