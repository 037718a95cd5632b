/- Qxb6601817a: the walk of FnIntnIsFirstAcceptedDrawModM for m of 1 and above. -/
import Derived.Test.Qxb6601817aIntnWalks
import Derived.Deep.DeepCutAuto
namespace Go.Proofs.Qxb6601817a.Intn
open Go.ChangeShapes Go.WideShapes Go.ChangeAt Go.RowKit

theorem least_fn' (m : Int) (h0 : 1 ≤ m) (h1 : m ≤ 9223372036854775807) : (IntKind.u64.wrap (-m)).tmod m = 18446744073709551616 % m := by
  have e : IntKind.u64.wrap (-m) = 18446744073709551616 - m := by rw [wrap_u64]; omega
  rw [e, Int.tmod_eq_emod_of_nonneg (by omega), least_fn]
/-- The K-1-th state, as the law reckons it. -/
theorem back_one (s : Int) (K : Nat) (hK : 1 ≤ K) : IntKind.u64.wrap (s + IntKind.u64.wrap (((K : Int) - 1) * 11400714819323198485)) = st s (K - 1) := by
  rw [wrap_u64, wrap_u64]
  unfold st
  rw [Int.natCast_sub hK]
  omega

theorem pow_is (m L : Int) (w : World) (h0 : 1 ≤ m) (h1 : m ≤ 9223372036854775807) (hL : 18446744073709551616 % m = L) :
    Calls Try.prog 14 #[.int .u64 m] w fun e w' => e = .returned (.int .u64 L) ∧ w' = w := by
  rw [← hL]
  exact pow_any m w h0 h1
theorem zzintn_is (s m L x y : Int) (K : Nat) (w : World) (s0 : 0 ≤ s) (s1 : s ≤ 18446744073709551615) (m0 : 1 ≤ m) (m1 : m ≤ 9223372036854775807)
    (hL : 18446744073709551616 % m = L) (hK : 1 ≤ K) (hx : mix (st s K) = x) (hy : st s K = y) (hacc : L ≤ x) (hrej : ∀ j, 1 ≤ j → j < K → mix (st s j) < L) :
    Calls Try.prog 15 #[.int .u64 s, .int .i64 m] w fun e w' => e = .returned (.tuple #[.int .i64 (x % m), .int .u64 y]) ∧ Below w.heap.size w w' := by
  have h := zzintn_any s m L K w s0 s1 m0 m1 (by rw [least_fn' m m0 m1]; exact hL) hK (by rw [hx]; exact hacc) hrej
  rw [hx, hy] at h
  exact h

set_option maxRecDepth 100000 in
set_option maxHeartbeats 2000000 in
theorem law6 (s m L x y z : Int) (K : Nat) (w : World) (s0 : 0 ≤ s) (s1 : s ≤ 18446744073709551615) (m0 : 1 ≤ m) (m1 : m ≤ 9223372036854775807)
    (hL : 18446744073709551616 % m = L) (hK : 1 ≤ K) (hK2 : K ≤ 18446744073709551615) (hx : mix (st s K) = x) (hy : st s K = y) (hz : st s (K - 1) = z) (hacc : L ≤ x) (hrej : ∀ j, 1 ≤ j → j < K → mix (st s j) < L) :
    Calls Try.prog 6 #[.int .u64 s, .int .i64 m] w fun e w' => e = .returned (.bool true) ∧ Below w.heap.size w w' := by
  have hb := mix_bd (st s K)
  rw [hx] at hb
  obtain ⟨x0, x1⟩ := hb
  have hby := st_bd s K
  rw [hy] at hby
  obtain ⟨y0, y1⟩ := hby
  have r0 : 0 ≤ x % m := Int.emod_nonneg _ (by omega)
  have r1 : x % m < m := Int.emod_lt_of_pos x (by omega)
  have r2 : x % m ≤ 9223372036854775807 := by omega
  have HI : Hid (∀ W : World, Calls Try.prog 15 #[.int .u64 s, .int .i64 m] W fun e w' => e = .returned (.tuple #[.int .i64 (x % m), .int .u64 y]) ∧ Below W.heap.size W w') := fun W => zzintn_is s m L x y K W s0 s1 m0 m1 hL hK hx hy hacc hrej
  have HP : Hid (∀ W : World, Calls Try.prog 14 #[.int .u64 m] W fun e w' => e = .returned (.int .u64 L) ∧ W = w') := fun W => (pow_is m L W m0 m1 hL).mono (fun _ _ h => ⟨h.1, h.2.symm⟩)
  have HZ : Hid (∀ W : World, Calls Try.prog 17 #[.int .u64 z] W fun e w' => e = .returned (.tuple #[.int .u64 x, .int .u64 y]) ∧ Below W.heap.size W w') := fun W => zznext_is z x y W (by rw [← hz, st_succ, Nat.sub_add_cancel hK]; exact hy) (by rw [← hy]; exact hx)
  have hk : IntKind.u64.wrap (IntKind.u64.wrap (y - s) * 17428512612931826493) = K := by rw [← hy]; exact back s K hK2
  have hbk : IntKind.u64.wrap (s + IntKind.u64.wrap (((K : Int) - 1) * 11400714819323198485)) = z := by rw [← hz]; exact back_one s K hK
  have HR : Hid (∀ j, 1 ≤ j → j < K → mix (st s j) < L) := hrej
  have HS : Hid (st s 0 = s) := st_zero s0 s1
  clear hL hx hy hz hrej
  have k1 : (1 : Int) ≤ (K : Int) := by omega
  have k2 : (K : Int) ≤ 18446744073709551615 := by omega
  have kne : ((K : Int) == 0) = false := by simp; omega
  go_enter Try.func6, Try.ntmps6
  go_upto_if 46 with (first | (go_at_call 14; refine (HP.out _).mono ?_; rintro e w' ⟨rfl, rfl⟩) | (go_at_call 15; refine (HI.out _).mono ?_; rintro e w1 ⟨rfl, hb1⟩) | (go_at_call 16; refine (gi_any _).mono ?_; rintro e w' ⟨rfl, rfl⟩))
  go_cut [10] (fun s10 w' => ∃ l : Nat, l + 1 ≤ K ∧ l ≤ 65536 ∧ s10 = .int .u64 l ∧ Below w.heap.size w w')
  case first =>
    by_cases hc : 65536 < (K : Int) - 1
    · go_wp2
      go_meet
      case rel => exact ⟨65536, by omega, by omega, rfl, hb1⟩
    · go_wp2
      go_meet
      case rel => exact ⟨K - 1, by omega, by omega, by rw [Int.natCast_sub hK]; rfl, hb1⟩
  case rest =>
    clear hb1
    obtain ⟨l, hl1, hl2, rfl, hb1⟩ := hcut
    have HB : Hid _ := hb1
    clear hb1
    go_wp2_with fail
    go_loopw [11, 12] (fun sv jv wr => ∃ j : Nat, j ≤ l ∧ jv = .int .u64 j ∧ sv = .int .u64 (st s j) ∧ Hid (Below w.heap.size w wr)) (fun _ jv _ => l - (intOf jv).toNat)
    case atStart => exact ⟨0, Nat.zero_le _, rfl, by rw [HS.out], HB⟩
    case round =>
      clear HB
      obtain ⟨j, hj, rfl, rfl, HB⟩ := hrel
      have j2 : (j : Int) ≤ 65536 := by omega
      by_cases hlt : j < l
      · have hlt' : (j : Int) < (l : Int) := by omega
        have hr := HR.out (j + 1) (by omega) (by omega)
        obtain ⟨xj, hxj⟩ : ∃ q, mix (st s (j + 1)) = q := ⟨_, rfl⟩
        rw [hxj] at hr
        have HN : Hid (∀ W : World, Calls Try.prog 17 #[.int .u64 (st s j)] W fun e w' => e = .returned (.tuple #[.int .u64 xj, .int .u64 (st s (j + 1))]) ∧ Below W.heap.size W w') := fun W => zznext_is (st s j) xj (st s (j + 1)) W (st_succ s j) hxj
        clear hxj
        go_wp2_with (go_at_call 17; refine (HN.out _).mono ?_; rintro e w1 ⟨rfl, hb1⟩)
        go_roundw
        case rel => exact ⟨j + 1, by omega, by go_num, rfl, HB.out.trans (hb1.mono HB.out.size)⟩
        case measure => simp [intOf]; omega
      · have hge : ¬ (j : Int) < (l : Int) := by omega
        go_wp2_with (go_at_call 17; refine (HZ.out _).mono ?_; rintro e w1 ⟨rfl, hb1⟩)
        go_ret
        exact ⟨rfl, HB.out.trans (hb1.mono HB.out.size)⟩
end Go.Proofs.Qxb6601817a.Intn
