/- Qxb6601817a: the walks of checksOf, fieldsOf, verdictClass, joinedClass and Checks.Failed. -/
import Derived.Test.Qxb6601817aJoinZZ
namespace Go.Proofs.Qxb6601817a.Join
open Go.ChangeShapes Go.WideShapes Go.ChangeAt Go.RowKit
theorem ret_bool {a b : Bool} (h : a = b) : Ending.returned (.bool a) = .returned (.bool b) := by rw [h]
theorem ret_int {k : IntKind} {a b : Int} (h : a = b) : Ending.returned (.int k a) = .returned (.int k b) := by rw [h]

set_option maxRecDepth 100000 in
theorem checksOf_any (f : Nat → Option Addr) (w : World) :
    Calls Try.prog 10 #[.agg #[.pointer (f 0), .pointer (f 1), .pointer (f 2), .pointer (f 3), .pointer (f 4), .pointer (f 5), .pointer (f 6), .pointer (f 7), .pointer (f 8), .pointer (f 9), .pointer (f 10)]] w fun e w' => e = .returned (.agg #[.pointer (f 0), .pointer (f 1), .pointer (f 2), .pointer (f 3), .pointer (f 4), .pointer (f 5), .pointer (f 6), .pointer (f 7), .pointer (f 8), .pointer (f 9), .pointer (f 10)]) ∧ Below w.heap.size w w' := by
  go_enter Try.func10, Try.ntmps10
  go_wp2
  exact bodyPost_ret (v := .agg #[.pointer (f 0), .pointer (f 1), .pointer (f 2), .pointer (f 3), .pointer (f 4), .pointer (f 5), .pointer (f 6), .pointer (f 7), .pointer (f 8), .pointer (f 9), .pointer (f 10)]) (by simp [results, Try.results10, go_sem]) rfl ⟨rfl, ((Below.refl _ _).alloc (Nat.le_refl _) _).alloc (by simp) _⟩

set_option maxRecDepth 100000 in
theorem fieldsOf_any (f : Nat → Option Addr) (w : World) :
    Calls Try.prog 8 #[.agg #[.pointer (f 0), .pointer (f 1), .pointer (f 2), .pointer (f 3), .pointer (f 4), .pointer (f 5), .pointer (f 6), .pointer (f 7), .pointer (f 8), .pointer (f 9), .pointer (f 10)]] w fun e w' => e = .returned (.agg #[.pointer (f 0), .pointer (f 1), .pointer (f 2), .pointer (f 3), .pointer (f 4), .pointer (f 5), .pointer (f 6), .pointer (f 7), .pointer (f 8), .pointer (f 9), .pointer (f 10)]) ∧ Below w.heap.size w w' := by
  go_enter Try.func8, Try.ntmps8
  go_wp2
  exact bodyPost_ret (v := .agg #[.pointer (f 0), .pointer (f 1), .pointer (f 2), .pointer (f 3), .pointer (f 4), .pointer (f 5), .pointer (f 6), .pointer (f 7), .pointer (f 8), .pointer (f 9), .pointer (f 10)]) (by simp [results, Try.results8, go_sem]) rfl ⟨rfl, ((Below.refl _ _).alloc (Nat.le_refl _) _).alloc (by simp) _⟩

/-- 0: no verdict; 1: true; 2: false. -/
def cls (v : Addr → Bool) (p : Option Addr) : Int := match p with | none => 0 | some a => if v a then 1 else 2
def jc (a b : Int) : Int := if a = 2 ∨ b = 2 then 2 else if a = 1 ∨ b = 1 then 1 else 0

theorem cls_any (v : Addr → Bool) (p : Option Addr) (w : World) (h : ∀ a, p = some a → w.cell? a = some (.bool (v a))) :
    Calls Try.prog 11 #[.pointer p] w fun e w' => e = .returned (.int .i64 (cls v p)) ∧ w' = w := by
  cases p with
  | none =>
    clear h
    go_enter Try.func11, Try.ntmps11
    go_wp2
    go_ret
    exact ⟨rfl, rfl⟩
  | some a =>
    have d := h a rfl
    clear h
    have HE : Hid (cls v (some a) = if v a then 1 else 2) := rfl
    obtain ⟨x, hx⟩ : ∃ x, v a = x := ⟨_, rfl⟩
    rw [hx] at d HE
    clear hx
    cases x
    · go_enter Try.func11, Try.ntmps11
      go_wp2
      go_ret
      exact ⟨ret_int HE.out.symm, rfl⟩
    · go_enter Try.func11, Try.ntmps11
      go_wp2
      go_ret
      exact ⟨ret_int HE.out.symm, rfl⟩

theorem jc_any (a b : Int) (w : World) :
    Calls Try.prog 12 #[.int .i64 a, .int .i64 b] w fun e w' => e = .returned (.int .i64 (jc a b)) ∧ w' = w := by
  go_enter Try.func12, Try.ntmps12
  go_wp2
  all_goals
    go_ret
    refine ⟨ret_int ?_, rfl⟩
    unfold jc
    simp_all

/-- Some verdict is false. -/
def badAt (v : Addr → Bool) (p : Option Addr) : Bool := match p with | none => false | some a => !v a
def fails (v : Addr → Bool) (f : Nat → Option Addr) (k : Nat) : Bool := (List.range k).any fun j => badAt v (f j)
theorem fails_succ (v : Addr → Bool) (f : Nat → Option Addr) (k : Nat) : fails v f (k + 1) = (fails v f k || badAt v (f k)) := by
  unfold fails
  rw [List.range_succ, List.any_append]
  simp

theorem fails_ge (v : Addr → Bool) (f : Nat → Option Addr) (k n : Nat) (hk : k < n) (h : badAt v (f k) = true) : fails v f n = true := by
  unfold fails
  rw [List.any_eq_true]
  exact ⟨k, by simpa using hk, h⟩

/-- What the rounds of Failed see. -/
structure FR (B : Nat) (v : Addr → Bool) (f : Nat → Option Addr) (w wr : World) : Prop where
  cells : Lay wr w.heap.size f
  row : Lay wr (w.heap.size + 1) (fun j => some ⟨w.heap.size, j, none⟩)
  good : Good wr B v f
  below : Below w.heap.size w wr

theorem FR.start (B : Nat) (v : Addr → Bool) (f : Nat → Option Addr) (w : World) (hB : B ≤ w.heap.size) (hg : Good w B v f) :
    FR B v f w ((w.alloc (.cells #[.pointer (f 0), .pointer (f 1), .pointer (f 2), .pointer (f 3), .pointer (f 4), .pointer (f 5), .pointer (f 6), .pointer (f 7), .pointer (f 8), .pointer (f 9), .pointer (f 10)] 26)).alloc (.cells #[.pointer (some ⟨w.heap.size, 0, none⟩), .pointer (some ⟨w.heap.size, 1, none⟩), .pointer (some ⟨w.heap.size, 2, none⟩), .pointer (some ⟨w.heap.size, 3, none⟩), .pointer (some ⟨w.heap.size, 4, none⟩), .pointer (some ⟨w.heap.size, 5, none⟩), .pointer (some ⟨w.heap.size, 6, none⟩), .pointer (some ⟨w.heap.size, 7, none⟩), .pointer (some ⟨w.heap.size, 8, none⟩), .pointer (some ⟨w.heap.size, 9, none⟩), .pointer (some ⟨w.heap.size, 10, none⟩)] 44)).drew := by
  have s1 : ∀ o1 : Obj, (w.alloc o1).heap.size = w.heap.size + 1 := fun o1 => by simp
  have hbl : ∀ o1 o2 : Obj, Below w.heap.size w ((w.alloc o1).alloc o2).drew := fun o1 o2 => (((Below.refl _ _).alloc (Nat.le_refl _) _).alloc (by rw [s1]; omega) _).drew
  refine { cells := ?_, row := ?_, good := hg.below ((hbl _ _).mono hB), below := hbl _ _ }
  · exact (Lay.new w f 26).alloc (by rw [s1]; omega) _
  · have h := Lay.new (w.alloc (.cells #[.pointer (f 0), .pointer (f 1), .pointer (f 2), .pointer (f 3), .pointer (f 4), .pointer (f 5), .pointer (f 6), .pointer (f 7), .pointer (f 8), .pointer (f 9), .pointer (f 10)] 26)) (fun j => some ⟨w.heap.size, j, none⟩) 44
    rw [s1] at h
    exact h

set_option maxRecDepth 100000 in
set_option maxHeartbeats 1000000 in
theorem failed_any (B : Nat) (v : Addr → Bool) (f : Nat → Option Addr) (w : World) (hB : B ≤ w.heap.size) (hg : Good w B v f) :
    Calls Try.prog 13 #[.agg #[.pointer (f 0), .pointer (f 1), .pointer (f 2), .pointer (f 3), .pointer (f 4), .pointer (f 5), .pointer (f 6), .pointer (f 7), .pointer (f 8), .pointer (f 9), .pointer (f 10)]] w fun e w' => e = .returned (.bool (fails v f 11)) ∧ Below w.heap.size w w' := by
  have HG : Hid (Good w B v f) := hg
  clear hg
  go_enter Try.func13, Try.ntmps13
  go_wp2_with (go_at_call 19; refine (verdicts_any _ _).mono ?_; rintro e w' ⟨rfl, rfl⟩)
  go_loopw [7] (fun i wr => ∃ k : Nat, k ≤ 11 ∧ i = .int .i64 k ∧ Hid (fails v f k = false) ∧ FR B v f w wr) (fun i _ => 11 - (intOf i).toNat)
  case atStart => exact ⟨0, Nat.zero_le _, rfl, rfl, FR.start B v f w hB HG.out⟩
  case round =>
    obtain ⟨k, hk, rfl, HF, hj⟩ := hrel
    by_cases hlt : k < 11
    · have hlt'' : (k : Int) < 11 := by omega
      have c2 := hj.row k hlt
      have c3 := hj.cells k hlt
      have k3 : ∀ a, f k = some a → wr.cell? a = some (.bool (v a)) := fun a ha => (hj.good k hlt a ha).2
      have HJ : Hid (FR B v f w wr) := hj
      clear hj
      obtain ⟨fk, hfk⟩ : ∃ x, f k = x := ⟨_, rfl⟩
      rw [hfk] at c3 k3
      have HK : Hid (f k = fk) := hfk
      clear hfk
      cases fk with
      | none =>
        clear k3
        go_wp2
        go_roundw
        case rel => exact ⟨k + 1, by omega, by go_num, by show fails v f (k + 1) = false; rw [fails_succ, HF.out, HK.out]; rfl, HJ.out⟩
        case measure => simp [intOf]; omega
      | some a =>
        have d3 := k3 a rfl
        clear k3
        obtain ⟨va, hva⟩ : ∃ x, v a = x := ⟨_, rfl⟩
        have HB : Hid (badAt v (f k) = !va) := by show badAt v (f k) = !va; rw [HK.out, ← hva]; rfl
        rw [hva] at d3
        clear hva
        cases va
        · have HE : Hid (fails v f 11 = true) := fails_ge v f k 11 hlt HB.out
          go_wp2
          go_ret
          exact ⟨ret_bool HE.out.symm, HJ.out.below⟩
        · go_wp2
          go_roundw
          case rel => exact ⟨k + 1, by omega, by go_num, by show fails v f (k + 1) = false; rw [fails_succ, HF.out, HB.out]; rfl, HJ.out⟩
          case measure => simp [intOf]; omega
    · have : k = 11 := by omega
      subst this
      go_wp2
      go_ret
      exact ⟨ret_bool HF.out.symm, hj.below⟩

end Go.Proofs.Qxb6601817a.Join
