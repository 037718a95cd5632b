/- Qxb6601817a: the plain side of splitMix: the states, the mixing, the first accepted draw. -/
import Derived.Test.Qxb6601817aRows
import Derived.WalkKit
import Derived.OpenShut
import Derived.Deep.LoopGhost
namespace Go.Proofs.Qxb6601817a.Intn
open Go.RowKit

theorem wrap_u64 (x : Int) : IntKind.u64.wrap x = x % 18446744073709551616 := by
  simp [IntKind.wrap, IntKind.signed, IntKind.bits]

/-- A state moved on by one draw. -/
def step (s : Int) : Int := IntKind.u64.wrap (s + 11400714819323198485)
def f1 (z : Int) : Int := IntKind.u64.wrap (bits BinOp.xor IntKind.u64 z (z / 1073741824) * 13787848793156543929)
def f2 (z : Int) : Int := IntKind.u64.wrap (bits BinOp.xor IntKind.u64 z (z / 134217728) * 10723151780598845931)
def f3 (z : Int) : Int := bits BinOp.xor IntKind.u64 z (z / 2147483648)
/-- A state, mixed: the number drawn. -/
def mix (z : Int) : Int := f3 (f2 (f1 z))
/-- The state behind k draws from s. -/
def st (s : Int) (k : Nat) : Int := (s + k * 11400714819323198485) % 18446744073709551616

theorem mix_bd (z : Int) : 0 ≤ mix z ∧ mix z ≤ 18446744073709551615 := by
  unfold mix f3
  exact bounds_u64 (wf_bits _ _ _ _)
theorem st_bd (s : Int) (k : Nat) : 0 ≤ st s k ∧ st s k ≤ 18446744073709551615 := by
  unfold st
  omega
theorem st_zero {s : Int} (h0 : 0 ≤ s) (h1 : s ≤ 18446744073709551615) : st s 0 = s := by
  unfold st
  omega
theorem st_succ (s : Int) (k : Nat) : step (st s k) = st s (k + 1) := by
  unfold step st
  rw [wrap_u64]
  omega

/-- How often the state moved, read back. -/
theorem back (s : Int) (k : Nat) (hk : k ≤ 18446744073709551615) : IntKind.u64.wrap (IntKind.u64.wrap (st s k - s) * 17428512612931826493) = k := by
  rw [wrap_u64, wrap_u64]
  unfold st
  have e : ((s + k * 11400714819323198485) % 18446744073709551616 - s) % 18446744073709551616 = (k * 11400714819323198485) % 18446744073709551616 := by omega
  rw [e]
  omega

/-- The state that is reached from s at z. -/
theorem reach (s z : Int) (hz0 : 0 ≤ z) (hz1 : z ≤ 18446744073709551615) (hs0 : 0 ≤ s) (hs1 : s ≤ 18446744073709551615) (hne : z ≠ s) :
    ∃ k : Nat, 1 ≤ k ∧ k ≤ 18446744073709551615 ∧ st s k = z := by
  obtain ⟨r, hr⟩ : ∃ r, r = ((z - s) * 17428512612931826493) % 18446744073709551616 := ⟨_, rfl⟩
  obtain ⟨q, hq⟩ : ∃ q, q = ((z - s) * 17428512612931826493) / 18446744073709551616 := ⟨_, rfl⟩
  have hrq : 18446744073709551616 * q + r = (z - s) * 17428512612931826493 := by
    rw [hr, hq]
    exact Int.mul_ediv_add_emod _ _
  have hr0 : 0 ≤ r := by rw [hr]; exact Int.emod_nonneg _ (by decide)
  have hr1 : r < 18446744073709551616 := by rw [hr]; exact Int.emod_lt_of_pos _ (by decide)
  clear hr hq
  have h1 : (s + r * 11400714819323198485) % 18446744073709551616 = z := by
    have e : s + r * 11400714819323198485 = z + 18446744073709551616 * ((z - s) * 10771413168148108919 - q * 11400714819323198485) := by omega
    rw [e, Int.add_mul_emod_self_left]
    exact Int.emod_eq_of_lt hz0 (by omega)
  clear hrq
  refine ⟨r.toNat, ?_, by omega, ?_⟩
  · have : r ≠ 0 := by
      intro h
      rw [h] at h1
      omega
    omega
  · unfold st
    rw [Int.toNat_of_nonneg (by omega)]
    exact h1

theorem mix2 : 9223372036854775808 ≤ mix 2 := by decide +kernel
theorem mix4 : 9223372036854775808 ≤ mix 4 := by decide +kernel

/-- THE FIRST ACCEPTED DRAW: for every state and every bound below 2^63 there is one, within 2^64 - 1 draws. -/
theorem first (s least : Int) (hs0 : 0 ≤ s) (hs1 : s ≤ 18446744073709551615) (hl : least ≤ 9223372036854775807) :
    ∃ K : Nat, 1 ≤ K ∧ K ≤ 18446744073709551615 ∧ least ≤ mix (st s K) ∧ ∀ j, 1 ≤ j → j < K → mix (st s j) < least := by
  obtain ⟨k0, a1, a2, a3⟩ : ∃ k0 : Nat, 1 ≤ k0 ∧ k0 ≤ 18446744073709551615 ∧ least ≤ mix (st s k0) := by
    by_cases h : (2 : Int) = s
    · obtain ⟨k, b1, b2, b3⟩ := reach s 4 (by omega) (by omega) hs0 hs1 (by omega)
      exact ⟨k, b1, b2, by rw [b3]; have := mix4; omega⟩
    · obtain ⟨k, b1, b2, b3⟩ := reach s 2 (by omega) (by omega) hs0 hs1 h
      exact ⟨k, b1, b2, by rw [b3]; have := mix2; omega⟩
  obtain ⟨K, ⟨c1, c2⟩, c3⟩ := exists_least (p := fun k => 1 ≤ k ∧ least ≤ mix (st s k)) ⟨k0, a1, a3⟩
  refine ⟨K, c1, Nat.le_trans (c3 k0 ⟨a1, a3⟩) a2, c2, fun j hj hlt => ?_⟩
  by_cases h : least ≤ mix (st s j)
  · have := c3 j ⟨hj, h⟩
    omega
  · omega

/-! ### 2^64 mod m, as intn and as the law reckon it -/
theorem least_law (m : Int) (h0 : 1 ≤ m) (h1 : m ≤ 9223372036854775807) : (IntKind.u64.wrap (18446744073709551615 % m + 1)).tmod m = 18446744073709551616 % m := by
  have hm0 := Int.emod_nonneg 18446744073709551615 (by omega : m ≠ 0)
  have hm1 := Int.emod_lt_of_pos 18446744073709551615 (by omega : 0 < m)
  rw [wrap_u64, Int.emod_eq_of_lt (by omega) (by omega), Int.tmod_eq_emod_of_nonneg (by omega), Int.emod_add_emod, show (18446744073709551615 : Int) + 1 = 18446744073709551616 from by decide]
theorem least_fn (m : Int) : (18446744073709551616 - m) % m = 18446744073709551616 % m := Int.sub_emod_right _ _

/-! ### The inverse by Newton's rounds -/
def gi : Nat → Int
  | 0 => 11400714819323198485
  | k + 1 => IntKind.u64.wrap (gi k * IntKind.u64.wrap (2 - IntKind.u64.wrap (11400714819323198485 * gi k)))
theorem gi6 : gi 6 = 17428512612931826493 := by decide +kernel

end Go.Proofs.Qxb6601817a.Intn
