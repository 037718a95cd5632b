/- Qxb6601817a: the walks of Checks.verdicts and Checks.join. -/
import Derived.Test.Qxb6601817aJoinPlain
import Derived.Deep.RegionHeld3
namespace Go.Proofs.Qxb6601817a.Join
open Go.ChangeShapes Go.WideShapes Go.ChangeAt Go.RowKit

set_option maxRecDepth 100000 in
set_option maxHeartbeats 1000000 in
theorem verdicts_any (b : Nat) (w : World) :
    Calls Try.prog 19 #[.pointer (some ⟨b, 0, none⟩)] w fun e w' => e = .returned (.slice (some ⟨w.heap.size, 0, none⟩) 11 11) ∧ w' = (w.alloc (.cells #[.pointer (some ⟨b, 0, none⟩), .pointer (some ⟨b, 1, none⟩), .pointer (some ⟨b, 2, none⟩), .pointer (some ⟨b, 3, none⟩), .pointer (some ⟨b, 4, none⟩), .pointer (some ⟨b, 5, none⟩), .pointer (some ⟨b, 6, none⟩), .pointer (some ⟨b, 7, none⟩), .pointer (some ⟨b, 8, none⟩), .pointer (some ⟨b, 9, none⟩), .pointer (some ⟨b, 10, none⟩)] 44)).drew := by
  go_enter Try.func19, Try.ntmps19
  go_wp2_with fail
  go_region_held3 (fun _ => True) (trivial) (fail)
  all_goals go_wp2
  go_ret
  exact ⟨rfl, rfl⟩

set_option maxRecDepth 100000 in
set_option maxHeartbeats 1000000 in
theorem join_any (b B : Nat) (hB : B ≤ b) (v : Addr → Bool) (o t : Nat → Option Addr) (w : World) (hb : b < w.heap.size) (ho : Lay w b o) (hf : ∀ j, j < 11 → w.frozen? ⟨b, j, none⟩ = false)
    (go : Good w B v o) (gt : Good w B v t) :
    Calls Try.prog 18 #[.pointer (some ⟨b, 0, none⟩), .agg #[.pointer (t 0), .pointer (t 1), .pointer (t 2), .pointer (t 3), .pointer (t 4), .pointer (t 5), .pointer (t 6), .pointer (t 7), .pointer (t 8), .pointer (t 9), .pointer (t 10)]] w fun e w' => e = .returned (.tuple #[]) ∧ JR v o t b w 8 w' := by
  have HO : Hid (Lay w b o) := ho
  have HF : Hid (∀ j, j < 11 → w.frozen? ⟨b, j, none⟩ = false) := hf
  have GO : Hid (Good w B v o) := go
  have GT : Hid (Good w B v t) := gt
  clear ho hf go gt
  go_enter Try.func18, Try.ntmps18
  go_wp2_with (go_at_call 19; refine (verdicts_any _ _).mono ?_; rintro e w' ⟨rfl, rfl⟩)
  go_loopw [12] (fun i wr => ∃ k : Nat, k ≤ 8 ∧ i = .int .i64 k ∧ JR v o t b w k wr) (fun i _ => 8 - (intOf i).toNat)
  case atStart => exact ⟨0, Nat.zero_le _, rfl, JR.start v o t b w hb HO.out HF.out⟩
  case round =>
    obtain ⟨k, hk, rfl, hj⟩ := hrel
    by_cases hlt : k < 8
    · have hlt' : (k : Int) < 8 := by omega
      have hlt'' : (k : Int) < 11 := by omega
      have c1 := hj.row2 k (by omega)
      have c2 := hj.row1 k (by omega)
      have c3 := hj.theirs k (by omega)
      have c4 := hj.ours k (by omega)
      rw [joinF_at] at c4
      have c5 := hj.free k (by omega)
      have k3 : ∀ a, t k = some a → wr.cell? a = some (.bool (v a)) := fun a ha => by
        obtain ⟨h1, h2⟩ := GT.out k (by omega) a ha
        rw [← h2]
        exact World.cell?_of_block (w := w) (hj.old _ (by omega) (by omega))
      have k4 : ∀ a, o k = some a → wr.cell? a = some (.bool (v a)) := fun a ha => by
        obtain ⟨h1, h2⟩ := GO.out k (by omega) a ha
        rw [← h2]
        exact World.cell?_of_block (w := w) (hj.old _ (by omega) (by omega))
      have HJ : Hid (JR v o t b w k wr) := hj
      clear hj
      obtain ⟨tk, htk⟩ : ∃ x, t k = x := ⟨_, rfl⟩
      obtain ⟨ok, hok⟩ : ∃ x, o k = x := ⟨_, rfl⟩
      rw [htk] at c3 k3
      rw [hok] at c4 k4
      have HT : Hid (t k = tk) := htk
      have HK : Hid (o k = ok) := hok
      clear htk hok
      cases tk with
      | none =>
        clear k3 k4
        have HE : Hid (jn v (o k) (t k) = o k) := by show jn v (o k) (t k) = o k; rw [HT.out]; rfl
        go_wp2
        go_roundw
        case rel => exact ⟨k + 1, by omega, by go_num, HJ.out.keep HE.out⟩
        case measure => simp [intOf]; omega
      | some ta =>
        have d3 := k3 ta rfl
        cases ok with
        | none =>
          clear k3 k4
          have HE : Hid (jn v (o k) (t k) = some ta) := by show jn v (o k) (t k) = some ta; rw [HT.out, HK.out]; rfl
          go_wp2
          go_roundw
          case rel => exact ⟨k + 1, by omega, by go_num, HJ.out.put hb _ HE.out⟩
          case measure => simp [intOf]; omega
        | some oa =>
          have d4 := k4 oa rfl
          clear k3 k4
          have HE : Hid (jn v (o k) (t k) = if v oa && !v ta then some ta else some oa) := by show jn v (o k) (t k) = _; rw [HT.out, HK.out]; rfl
          obtain ⟨vt, hvt⟩ : ∃ x, v ta = x := ⟨_, rfl⟩
          obtain ⟨vo, hvo⟩ : ∃ x, v oa = x := ⟨_, rfl⟩
          rw [hvt] at d3 HE
          rw [hvo] at d4 HE
          clear hvt hvo
          cases vt <;> cases vo
          · go_wp2
            go_roundw
            case rel => exact ⟨k + 1, by omega, by go_num, HJ.out.keep (HE.out.trans HK.out.symm)⟩
            case measure => simp [intOf]; omega
          · go_wp2
            go_roundw
            case rel => exact ⟨k + 1, by omega, by go_num, HJ.out.put hb _ HE.out⟩
            case measure => simp [intOf]; omega
          · go_wp2
            go_roundw
            case rel => exact ⟨k + 1, by omega, by go_num, HJ.out.keep (HE.out.trans HK.out.symm)⟩
            case measure => simp [intOf]; omega
          · go_wp2
            go_roundw
            case rel => exact ⟨k + 1, by omega, by go_num, HJ.out.keep (HE.out.trans HK.out.symm)⟩
            case measure => simp [intOf]; omega
    · have : k = 8 := by omega
      subst this
      go_wp2
      go_end0
      exact ⟨rfl, hj⟩

end Go.Proofs.Qxb6601817a.Join
