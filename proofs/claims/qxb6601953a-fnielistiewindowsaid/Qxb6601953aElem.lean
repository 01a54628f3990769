/-
  THE WALKS of zzElementAt (16), (IEList).IE (17), zzClone (11) and the two bounds (15, 18).
-/
import Derived.Test.Qxb6601953aBase
import Derived.Test.Qxb6601953aPlain
namespace Go.Proofs.Qxb6601953a
open Go.RowKit Go.Proofs.Qxb6601953a.Plain

theorem results_tmp4 {fn : Func} {t u v x : Tmp} (h : fn.results = #[.tmp t, .tmp u, .tmp v, .tmp x]) (tmps : Array Value) (P : Program) (w : World) :
    (results fn tmps).run P w = .ok (.tuple #[tmps.getD t undef, tmps.getD u undef, tmps.getD v undef, tmps.getD x undef]) w := by
  simp [results, h]

/-- The octet at place p, as a natural number. -/
theorem octet {xs : List Int} (hb : ∀ j, 0 ≤ xs.getD j 0 ∧ xs.getD j 0 ≤ 255) (p : Nat) : ∃ m : Nat, xs.getD p 0 = (m : Int) ∧ m ≤ 255 :=
  ⟨(xs.getD p 0).toNat, by have := hb p; omega, by have := hb p; omega⟩

set_option maxHeartbeats 400000 in
theorem elem_found (b o n c i : Nat) (xs : List Int) (w : World) (hn : n ≤ 1073741824) (hx : xs.length = n) (hc : n ≤ c) (hb : ∀ j, 0 ≤ xs.getD j 0 ∧ xs.getD j 0 ≤ 255)
    (hcell : ∀ j, j < n → w.cell? ⟨b, o + j, none⟩ = some (.int .u8 (xs.getD j 0))) (hf : offAt xs (i + 1) ≤ n) (I : Int) (hI : I = (i : Int)) :
    Calls Try.prog 16 #[.slice (some ⟨b, o, none⟩) n c, .int .i64 I] w fun e w' =>
      ∃ t q m : Int, e = .returned (.tuple #[.int .u8 t, .int .i64 q, .int .i64 m, .bool true]) ∧ q = ((offAt xs i + 2 : Nat) : Int) ∧ m = xs.getD (offAt xs i + 1) 0 ∧ w' = w := by
  subst hI
  go_enter Try.func16, Try.ntmps16
  go_wp2
  go_loop [8, 9, 10] (fun r u kk => ∃ (k p : Nat) (ao : Option Addr), p = offAt xs k ∧ k ≤ i ∧ r = .slice ao (n - p) (c - p) ∧ u = .int .i64 p ∧ kk = .int .i64 k ∧ ao = some ⟨b, o + p, none⟩)
    (fun _ _ kk => i - (intOf kk).toNat)
  case atStart => exact ⟨0, 0, _, rfl, Nat.zero_le _, rfl, rfl, rfl, rfl⟩
  case round =>
    obtain ⟨k, p, ao, hp, hk, rfl, rfl, rfl, rfl⟩ := hrel
    have h2 := offAt_le xs (k + 1) (i + 1) (by omega)
    rw [offAt_succ, ← hp] at h2
    obtain ⟨m, hm, hm'⟩ := octet hb (p + 1)
    have g0 := hcell p (by omega)
    have g1 := hcell (p + 1) (by omega)
    rw [hm] at g1 h2
    rw [Int.toNat_natCast] at h2
    rw [show o + (p + 1) = o + p + 1 by omega] at g1
    have l1 : (2 : Int) ≤ ((n - p : Nat) : Int) := by omega
    have l2 : (2 : Int) + (m : Int) ≤ ((n - p : Nat) : Int) := by omega
    have hk2 : k ≤ n := by have := offAt_two xs k; omega
    have hs : offAt xs (k + 1) = p + 2 + m := by rw [offAt_succ, ← hp, hm, Int.toNat_natCast]
    have HP : Hid (p = offAt xs k) := hp
    have HM : Hid (xs.getD (p + 1) 0 = (m : Int)) := hm
    have HS : Hid (offAt xs (k + 1) = p + 2 + m) := hs
    clear hp hm hcell hb hs
    by_cases hi : k = i
    · subst hi
      go_wp2
      refine bodyPost_ret (results_tmp4 rfl _ _ _) rfl ?_
      exact ⟨_, _, _, rfl, by rw [← HP.out], by rw [← HP.out]; exact HM.out.symm, rfl⟩
    · have hi' : ((k : Int) == (i : Int)) = false := by simp; omega
      go_wp2
      have h3 := offAt_le xs (k + 1 + 1) (i + 1) (by omega)
      rw [offAt_succ, HS.out] at h3
      go_round
      case rel => exact ⟨k + 1, p + (2 + m), _, by rw [HS.out]; omega, by omega, by rw [if_neg (by omega), Nat.sub_sub, Nat.sub_sub], by go_num, by go_num, by rw [Nat.add_assoc]⟩
      case measure => simp [intOf]; omega

theorem elem_zero (a0 : Option Addr) (c : Nat) (i : Int) (w : World) :
    Calls Try.prog 16 #[.slice a0 0 c, .int .i64 i] w fun e w' => e = .returned (.tuple #[.int .u8 0, .int .i64 0, .int .i64 0, .bool false]) ∧ w' = w := by
  go_enter Try.func16, Try.ntmps16
  go_wp2
  go_loop [8, 9, 10] (fun r _ _ => r = .slice a0 0 c) (fun _ _ kk => (intOf kk).toNat)
  case atStart => rfl
  case round =>
    subst hrel
    go_wp2
    refine bodyPost_ret (results_tmp4 rfl _ _ _) rfl ?_
    exact ⟨rfl, rfl⟩

set_option maxHeartbeats 400000 in
theorem elem_none (b o n c i : Nat) (xs : List Int) (w : World) (hn : n ≤ 1073741824) (hx : xs.length = n) (hc : n ≤ c) (hb : ∀ j, 0 ≤ xs.getD j 0 ∧ xs.getD j 0 ≤ 255)
    (hcell : ∀ j, j < n → w.cell? ⟨b, o + j, none⟩ = some (.int .u8 (xs.getD j 0))) (hf : n < offAt xs (i + 1)) (I : Int) (hI : I = (i : Int)) :
    Calls Try.prog 16 #[.slice (some ⟨b, o, none⟩) n c, .int .i64 I] w fun e w' => e = .returned (.tuple #[.int .u8 0, .int .i64 0, .int .i64 0, .bool false]) ∧ w' = w := by
  subst hI
  go_enter Try.func16, Try.ntmps16
  go_wp2
  go_loop [8, 9, 10] (fun r u kk => ∃ (k p : Nat) (ao : Option Addr), p = offAt xs k ∧ p ≤ n ∧ k ≤ i ∧ r = .slice ao (n - p) (c - p) ∧ u = .int .i64 p ∧ kk = .int .i64 k ∧ (p < n → ao = some ⟨b, o + p, none⟩))
    (fun _ u _ => n - (intOf u).toNat)
  case atStart => exact ⟨0, 0, _, rfl, Nat.zero_le _, Nat.zero_le _, rfl, rfl, rfl, fun _ => rfl⟩
  case round =>
    obtain ⟨k, p, ao, hp, hpn, hk, rfl, rfl, rfl, hao⟩ := hrel
    have hk2 : k ≤ n := by have := offAt_two xs k; omega
    by_cases h1 : 2 ≤ n - p
    · obtain rfl := hao (by omega)
      obtain ⟨m, hm, hm'⟩ := octet hb (p + 1)
      have g1 := hcell (p + 1) (by omega)
      rw [hm] at g1
      rw [show o + (p + 1) = o + p + 1 by omega] at g1
      have l1 : (2 : Int) ≤ ((n - p : Nat) : Int) := by omega
      have hs : offAt xs (k + 1) = p + 2 + m := by rw [offAt_succ, ← hp, hm, Int.toNat_natCast]
      by_cases h2 : 2 + m ≤ n - p
      · have hi : k ≠ i := by intro e; subst e; omega
        have hi' : ((k : Int) == (i : Int)) = false := by simp; omega
        have l2 : (2 : Int) + (m : Int) ≤ ((n - p : Nat) : Int) := by omega
        have HS : Hid (offAt xs (k + 1) = p + 2 + m) := hs
        clear hp hm hcell hb hs hao
        go_wp2
        go_round
        case rel =>
          refine ⟨k + 1, p + (2 + m), _, by rw [HS.out]; omega, by omega, by omega, by rw [Nat.sub_sub, Nat.sub_sub], by go_num, by go_num, fun hlt => ?_⟩
          rw [if_neg (by omega), Nat.add_assoc]
        case measure => simp [intOf]; omega
      · have l2 : ((n - p : Nat) : Int) < (2 : Int) + (m : Int) := by omega
        clear hp hm hcell hb hs hao
        go_wp2
        refine bodyPost_ret (results_tmp4 rfl _ _ _) rfl ?_
        exact ⟨rfl, rfl⟩
    · have l1 : ((n - p : Nat) : Int) < 2 := by omega
      clear hp hcell hb hao
      go_wp2
      refine bodyPost_ret (results_tmp4 rfl _ _ _) rfl ?_
      exact ⟨rfl, rfl⟩
end Go.Proofs.Qxb6601953a
