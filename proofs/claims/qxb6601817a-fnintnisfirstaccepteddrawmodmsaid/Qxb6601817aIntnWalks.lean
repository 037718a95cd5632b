/- Qxb6601817a: the walks of splitMix.next, splitMix.intn, ZZNext, ZZIntn, pow64Mod and gammaInverse. -/
import Derived.Test.Qxb6601817aIntnPlain
import Derived.ProofKit
import Derived.WalkSpells
import Derived.WalkSmall
import Derived.Deep.QuietTactic
import Derived.BigQuiet
namespace Go.Proofs.Qxb6601817a.Intn
open Go.ChangeShapes Go.WideShapes Go.ChangeAt Go.RowKit
theorem ret_int {k : IntKind} {a b : Int} (h : a = b) : Ending.returned (.int k a) = .returned (.int k b) := by rw [h]

theorem next_any (b : Nat) (s : Int) (w : World) (hc : w.cell? ⟨b, 0, none⟩ = some (.int .u64 s)) (hf : w.frozen? ⟨b, 0, none⟩ = false) :
    Calls Try.prog 21 #[.pointer (some ⟨b, 0, none⟩)] w fun e w' => e = .returned (.int .u64 (mix (step s))) ∧ w' = w.setCell ⟨b, 0, none⟩ (.int .u64 (step s)) := by
  go_enter Try.func21, Try.ntmps21
  go_wp2
  go_ret
  exact ⟨ret_int rfl, rfl⟩

theorem pow_any (m : Int) (w : World) (h0 : 1 ≤ m) (h1 : m ≤ 9223372036854775807) :
    Calls Try.prog 14 #[.int .u64 m] w fun e w' => e = .returned (.int .u64 (18446744073709551616 % m)) ∧ w' = w := by
  have HE : Hid _ := least_law m h0 h1
  go_enter Try.func14, Try.ntmps14
  go_wp2
  go_ret
  exact ⟨ret_int HE.out, rfl⟩

theorem gi_any (w : World) :
    Calls Try.prog 16 #[] w fun e w' => e = .returned (.int .u64 17428512612931826493) ∧ w' = w := by
  go_enter Try.func16, Try.ntmps16
  go_wp2
  go_loop [1, 2] (fun g i => ∃ k : Nat, k ≤ 6 ∧ i = .int .i64 k ∧ g = .int .u64 (gi k)) (fun _ i => 6 - (intOf i).toNat)
  case atStart => exact ⟨0, Nat.zero_le _, rfl, rfl⟩
  case round =>
    obtain ⟨k, hk, rfl, rfl⟩ := hrel
    by_cases hlt : k < 6
    · go_wp2
      go_round
      case rel => exact ⟨k + 1, by omega, by go_num, rfl⟩
      case measure => simp [intOf]; omega
    · have : k = 6 := by omega
      subst this
      go_wp2
      go_ret
      exact ⟨ret_int gi6, rfl⟩

theorem zznext_any (s : Int) (w : World) :
    Calls Try.prog 17 #[.int .u64 s] w fun e w' => e = .returned (.tuple #[.int .u64 (mix (step s)), .int .u64 (step s)]) ∧ Below w.heap.size w w' := by
  go_enter Try.func17, Try.ntmps17
  go_wp2_with (go_at_call 21; refine (next_any w.heap.size s _ ?_ ?_).mono ?_; (simp); (simp); rintro e w1 ⟨rfl, rfl⟩)
  go_quiet (fail)
  go_wp2
  go_ret2
  exact ⟨rfl, below_drewN ((Below.refl _ _).alloc (Nat.le_refl _) _) _⟩
theorem zznext_is (s x y : Int) (w : World) (hy : step s = y) (hx : mix y = x) :
    Calls Try.prog 17 #[.int .u64 s] w fun e w' => e = .returned (.tuple #[.int .u64 x, .int .u64 y]) ∧ Below w.heap.size w w' := by
  rw [← hx, ← hy]
  exact zznext_any s w

/-- What a round of intn sees: the state behind k draws lies in block b. -/
structure IR (b : Nat) (s : Int) (w : World) (k : Nat) (wr : World) : Prop where
  cell : wr.cell? ⟨b, 0, none⟩ = some (.int .u64 (st s k))
  free : wr.frozen? ⟨b, 0, none⟩ = false
  below : Below b w wr
theorem IR.next {b : Nat} {s : Int} {w : World} {k : Nat} {wr : World} (h : IR b s w k wr) : IR b s w (k + 1) (wr.setCell ⟨b, 0, none⟩ (.int .u64 (step (st s k)))) :=
  ⟨by rw [st_succ]; exact World.cell?_setCell_same _ _ _ h.cell, by rw [World.frozen?_setCell]; exact h.free, h.below.setCell (Nat.le_refl _) _⟩
theorem next_is (b : Nat) (s : Int) (w : World) (k : Nat) (wr : World) (x : Int) (hx : mix (st s (k + 1)) = x) (h : IR b s w k wr) :
    Calls Try.prog 21 #[.pointer (some ⟨b, 0, none⟩)] wr fun e w' => e = .returned (.int .u64 x) ∧ IR b s w (k + 1) w' := by
  refine (next_any b (st s k) wr h.cell h.free).mono ?_
  rintro e w' ⟨rfl, rfl⟩
  exact ⟨ret_int (by rw [st_succ]; exact hx), h.next⟩

/-- intn draws till the K-th number, the first that is at least L. -/
theorem intn_any (b : Nat) (s m L : Int) (K : Nat) (w : World) (m0 : 1 ≤ m) (m1 : m ≤ 9223372036854775807)
    (hL : (IntKind.u64.wrap (-m)).tmod m = L) (hK : 1 ≤ K) (hacc : L ≤ mix (st s K)) (hrej : ∀ j, 1 ≤ j → j < K → mix (st s j) < L)
    (hc : w.cell? ⟨b, 0, none⟩ = some (.int .u64 (st s 0))) (hf : w.frozen? ⟨b, 0, none⟩ = false) :
    Calls Try.prog 20 #[.pointer (some ⟨b, 0, none⟩), .int .i64 m] w fun e w' => e = .returned (.int .i64 (mix (st s K) % m)) ∧ IR b s w K w' := by
  have HA : Hid (L ≤ mix (st s K)) := hacc
  have HR : Hid (∀ j, 1 ≤ j → j < K → mix (st s j) < L) := hrej
  have H0 : Hid (IR b s w 0 w) := ⟨hc, hf, Below.refl _ _⟩
  clear hacc hrej hc hf
  go_enter Try.func20, Try.ntmps20
  go_wp2_with fail
  go_loopg [7] K (fun n _ wr => ∃ k : Nat, k < K ∧ n + k = K ∧ Hid (IR b s w k wr))
  case atStart => exact ⟨0, by omega, by omega, H0⟩
  case round =>
    obtain ⟨k, hk, hn, HI⟩ := hrel
    obtain ⟨x, hx⟩ : ∃ x, mix (st s (k + 1)) = x := ⟨_, rfl⟩
    have hb := mix_bd (st s (k + 1))
    rw [hx] at hb
    obtain ⟨x0, x1⟩ := hb
    have r0 : 0 ≤ x % m := Int.emod_nonneg _ (by omega)
    have r1 : x % m ≤ 9223372036854775807 := by have := Int.emod_lt_of_pos x (by omega : 0 < m); omega
    have HX : Hid (mix (st s (k + 1)) = x) := hx
    have HN : Hid (gk + k = K) := hn
    by_cases hlast : k + 1 = K
    · have ha : L ≤ x := by rw [← hx, hlast]; exact HA.out
      have HK : Hid (k + 1 = K) := hlast
      clear hx hn hlast
      go_wp2_with (go_at_call 21; refine (next_is b s w k _ x HX.out HI.out).mono ?_; rintro e w1 ⟨rfl, HI1⟩; replace HI1 : Hid _ := HI1)
      go_ret
      exact ⟨ret_int (by rw [← HX.out, HK.out]), by rw [← HK.out]; exact HI1.out⟩
    · have ha : ¬ L ≤ x := by have := HR.out (k + 1) (by omega) (by omega); omega
      clear hx hn
      go_wp2_with (go_at_call 21; refine (next_is b s w k _ x HX.out HI.out).mono ?_; rintro e w1 ⟨rfl, HI1⟩; replace HI1 : Hid _ := HI1)
      go_roundg (gk - 1)
      case measure => have := HN.out; omega
      case rel => exact ⟨k + 1, by omega, by have := HN.out; omega, HI1⟩

theorem zzintn_any (s m L : Int) (K : Nat) (w : World) (s0 : 0 ≤ s) (s1 : s ≤ 18446744073709551615) (m0 : 1 ≤ m) (m1 : m ≤ 9223372036854775807)
    (hL : (IntKind.u64.wrap (-m)).tmod m = L) (hK : 1 ≤ K) (hacc : L ≤ mix (st s K)) (hrej : ∀ j, 1 ≤ j → j < K → mix (st s j) < L) :
    Calls Try.prog 15 #[.int .u64 s, .int .i64 m] w fun e w' => e = .returned (.tuple #[.int .i64 (mix (st s K) % m), .int .u64 (st s K)]) ∧ Below w.heap.size w w' := by
  have HC : Hid (∀ W : World, W.cell? ⟨w.heap.size, 0, none⟩ = some (.int .u64 s) → W.frozen? ⟨w.heap.size, 0, none⟩ = false →
      Calls Try.prog 20 #[.pointer (some ⟨w.heap.size, 0, none⟩), .int .i64 m] W fun e w' => e = .returned (.int .i64 (mix (st s K) % m)) ∧ IR w.heap.size s W K w') := by
    intro W h1 h2
    exact intn_any w.heap.size s m L K W m0 m1 hL hK hacc hrej (by rw [st_zero s0 s1]; exact h1) h2
  clear hL hK hacc hrej
  go_enter Try.func15, Try.ntmps15
  go_wp2_with (go_at_call 20; refine (HC.out _ ?_ ?_).mono ?_; (simp); (simp); rintro e w1 ⟨rfl, hI⟩; have hc := hI.cell; have HB : Hid _ := hI.below; clear hI)
  go_quiet (fail)
  go_wp2
  go_ret2
  exact ⟨rfl, below_drewN (((Below.refl _ _).alloc (Nat.le_refl _) _).trans HB.out) _⟩

end Go.Proofs.Qxb6601817a.Intn
