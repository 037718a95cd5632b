/- The proof of 'Rows.FnWithDefaultsIsIdempotentAndPositiveSaid'. -/
import Derived.Test.Qxb6002370aRows
import Derived.WalkKit
import Derived.ProofKit
import Derived.OpenShut
import Derived.Deep.QuietTactic
import Derived.BigQuiet
import Derived.ShutString
namespace Go.Proofs.Qxb6002370a.fnWithDefaultsIsIdempotentAndPositive
open Go.ChangeShapes Go.WideShapes Go.ChangeAt Go.RowKit
open Go.ChangeMaps (open_string shut_string)
set_option linter.unusedVariables false      -- a walk need not use every 'w<i>' (that an integer argument fits its kind)

theorem own : ownKnob Try.prog.godebug = none := by kernel_rfl

/-! ### The plain law -/
def orD (a b : Int) : Int := if a ≤ 0 then b else a
theorem orD_le {a b : Int} (h : a ≤ 0) : orD a b = b := if_pos h
theorem orD_gt {a b : Int} (h : 0 < a) : orD a b = a := if_neg (by omega)
theorem ret_int {k : IntKind} {a b : Int} (h : a = b) : Ending.returned (.int k a) = .returned (.int k b) := by rw [h]
theorem grown_trans {a b c : World} (h : Grown a b) (k : Grown b c) : Grown a c :=
  ⟨World.keptBut_trans h.1 k.1, fun x => (k.2.1 x).trans (h.2.1 x), Nat.le_trans h.2.2 k.2.2⟩

/-! ### The callees -/
theorem or_any (a b : Int) (w : World) :
    Calls Try.prog 18 #[.int .i64 a, .int .i64 b] w fun e w' => e = .returned (.int .i64 (orD a b)) ∧ w' = w := by
  by_cases h : a ≤ 0
  · go_enter Try.func18, Try.ntmps18
    go_wp2
    go_ret
    exact ⟨ret_int (orD_le h).symm, rfl⟩
  · have h' : 0 < a := by omega
    go_enter Try.func18, Try.ntmps18
    go_wp2
    go_ret
    exact ⟨ret_int (orD_gt h').symm, rfl⟩

theorem wd_any (a b c d : Int) (w : World) :
    Calls Try.prog 19 #[.agg #[.int .i64 a, .int .i64 b, .int .i64 c, .int .i64 d]] w fun e w' => e = .returned (.agg #[.int .i64 (orD a 65536), .int .i64 (orD b 100), .int .i64 (orD c 32), .int .i64 (orD d 4096)]) ∧ Grown w w' := by
  go_enter Try.func19, Try.ntmps19
  go_wp2_with (go_at_call 18; refine (or_any _ _ _).mono ?_; rintro e w' ⟨rfl, rfl⟩)
  exact bodyPost_ret (v := .agg #[.int .i64 (orD a 65536), .int .i64 (orD b 100), .int .i64 (orD c 32), .int .i64 (orD d 4096)]) (by simp [results, Try.results19, go_sem]) rfl ⟨rfl, ((Grown.refl _).alloc _ _).alloc _ _⟩

theorem zz_any (a b c d : Int) (w : World) :
    Calls Try.prog 10 #[.int .i64 a, .int .i64 b, .int .i64 c, .int .i64 d] w fun e w' => e = .returned (.tuple #[.int .i64 (orD a 65536), .int .i64 (orD b 100), .int .i64 (orD c 32), .int .i64 (orD d 4096)]) ∧ Grown w w' := by
  go_enter Try.func10, Try.ntmps10
  go_wp2_with (go_at_call 19; refine (wd_any _ _ _ _ _).mono ?_; rintro e w1 ⟨rfl, hb⟩)
  go_quiet (fail)
  go_wp2
  exact bodyPost_ret (v := .tuple #[.int .i64 (orD a 65536), .int .i64 (orD b 100), .int .i64 (orD c 32), .int .i64 (orD d 4096)]) (by simp [results, Try.results10, go_sem]) rfl ⟨rfl, hb.alloc _ _⟩

/-! ### STEP 1: THE WALK: the Go text returns true. 'Grown w w'': the world has at most new blocks (Derived/RowKit3.lean). Part the cases AHEAD of 'go_enter' where a test parts the walk; take each callee by a contract of your own. -/
set_option maxRecDepth 100000 in
set_option maxHeartbeats 16000000 in
theorem walk (a0 : Int) (a1 : Int) (a2 : Int) (a3 : Int) (w0 : (Lit.int .i64 a0).wf = true) (w1 : (Lit.int .i64 a1).wf = true) (w2 : (Lit.int .i64 a2).wf = true) (w3 : (Lit.int .i64 a3).wf = true) (w : World) :
    Calls Try.prog 4 #[.int .i64 a0, .int .i64 a1, .int .i64 a2, .int .i64 a3] w fun e w' => e = .returned (.bool true) ∧ Grown w w' := by
  have z1 : orD 0 65536 = 65536 := rfl
  have z2 : orD 0 100 = 100 := rfl
  have z3 : orD 0 32 = 32 := rfl
  have z4 : orD 0 4096 = 4096 := rfl
  have y1 : orD 65536 65536 = 65536 := rfl
  have y2 : orD 100 100 = 100 := rfl
  have y3 : orD 32 32 = 32 := rfl
  have y4 : orD 4096 4096 = 4096 := rfl
  rcases (show a0 ≤ 0 ∨ 0 < a0 by omega) with c0 | c0 <;> rcases (show a1 ≤ 0 ∨ 0 < a1 by omega) with c1 | c1 <;> rcases (show a2 ≤ 0 ∨ 0 < a2 by omega) with c2 | c2 <;> rcases (show a3 ≤ 0 ∨ 0 < a3 by omega) with c3 | c3
  all_goals
    first | have e0 : orD a0 65536 = 65536 := orD_le c0 | have e0 : orD a0 65536 = a0 := orD_gt c0
    first | have e1 : orD a1 100 = 100 := orD_le c1 | have e1 : orD a1 100 = a1 := orD_gt c1
    first | have e2 : orD a2 32 = 32 := orD_le c2 | have e2 : orD a2 32 = a2 := orD_gt c2
    first | have e3 : orD a3 4096 = 4096 := orD_le c3 | have e3 : orD a3 4096 = a3 := orD_gt c3
    go_enter Try.func4, Try.ntmps4
    go_wp2_with (go_at_call 10; refine (zz_any _ _ _ _ _).mono ?_; rintro e w' ⟨rfl, hb⟩)
    go_ret
    exact ⟨rfl, by repeat (first | assumption | refine grown_trans ?_ (by assumption))⟩

/-! ### THE ROW's STEP: WRITTEN OUT: LEAVE IT -/
set_option maxRecDepth 100000 in
theorem lifted (os : Os) (started : os.Started) (H : Type) (enc : TypeId × Value → H) :
    ReturnsInHanded {} Try.checked os 4 .any (Rows.fnWithDefaultsIsIdempotentAndPositiveSpec.pre6 enc Try.prog Try.f4 Rows.fnWithDefaultsIsIdempotentAndPositiveRow.domain false) (Rows.fnWithDefaultsIsIdempotentAndPositiveSpec.post enc Try.prog Try.f4 false true false false) := by
  refine returnsInHanded_of_change (C := Try.checked) own started (by kernel_rfl) Try.func4
    (ChangeSpec.witness6 (enc := enc) (C := Try.checked) false ⟨#[], #[.int .i64 0, .int .i64 0, .int .i64 0, .int .i64 0], []⟩ 8 (by kernel_rfl) (by kernel_rfl) (by kernel_rfl) (by kernel_rfl)) ?_
  intro W base args ds gs before hval0 hW hcnd _
  have hval : ∀ (j : Nat) t v, Try.f4.params[j]? = some t → args[j]? = some v → Value.okWide Try.prog W .any base t v := hval0
  have hW' := hW
  obtain ⟨p, q, hA0, hV, rfl, hfz, hnd⟩ := hW
  have hA : DataW.TrodAll enc Try.prog W 0 (fun _ => true) true Try.f4.params.toList args.toList ds p := hA0
  rw [Try.params4] at hA hval
  obtain ⟨v0, vs0, d0, ds0, p0, q0, hargs, rfl, rfl, h0, r0⟩ := trodAll_cons hA
  obtain ⟨v1, vs1, d1, ds1, p1, q1, rfl, rfl, rfl, h1, r1⟩ := trodAll_cons r0
  obtain ⟨v2, vs2, d2, ds2, p2, q2, rfl, rfl, rfl, h2, r2⟩ := trodAll_cons r1
  obtain ⟨v3, vs3, d3, ds3, p3, q3, rfl, rfl, rfl, h3, r3⟩ := trodAll_cons r2
  obtain ⟨rfl, rfl, rfl⟩ := trodAll_nil r3
  obtain rfl : args = #[v0, v1, v2, v3] := by cases args; simp_all
  obtain ⟨rfl, rfl⟩ := trodVars_none hV
  obtain ⟨a0, rfl, rfl, rfl, w0⟩ := open_int Try.underlying3 (hval 0 3 v0 rfl rfl) h0
  obtain ⟨a1, rfl, rfl, rfl, w1⟩ := open_int Try.underlying3 (hval 1 3 v1 rfl rfl) h1
  obtain ⟨a2, rfl, rfl, rfl, w2⟩ := open_int Try.underlying3 (hval 2 3 v2 rfl rfl) h2
  obtain ⟨a3, rfl, rfl, rfl, w3⟩ := open_int Try.underlying3 (hval 3 3 v3 rfl rfl) h3
  clear hA0 hval0
  simp only [List.append_nil] at hW'
  refine (walk a0 a1 a2 a3 w0 w1 w2 w3 W).mono fun e W' ⟨he, hg⟩ => ?_
  subst he
  exact ⟨_, rfl, post_of_same (pa := []) (pv := []) hW' (fun _ _ _ => (trodAll_cons_mk (shut_bool Try.underlying4 _) trodAll_mk0)) (fun sp _ => (trodAll_cons_mk (shut_int Try.underlying3 w0) (trodAll_cons_mk (shut_int Try.underlying3 w1) (trodAll_cons_mk (shut_int Try.underlying3 w2) (trodAll_cons_mk (shut_int Try.underlying3 w3) trodAll_mk0))))) (fun _ _ => rfl) rfl
    (hg.frame _) hg.2.1 (ok_one (by kernel_rfl) rfl (okWide_bool_mk Try.underlying4 _))⟩

theorem over : Rows.fnWithDefaultsIsIdempotentAndPositiveRow.holds Try.pinned (OpenSpec.ofChange Rows.fnWithDefaultsIsIdempotentAndPositiveSpec) :=
  OpenClaim.holds_of_wide 4 Try.f4 rfl rfl rfl rfl rfl rfl rfl ⟨rfl, rfl, rfl, rfl, rfl⟩ rfl rfl rfl rfl rfl (by kernel_rfl) Try.func4 (by kernel_rfl)
    (of_decide_eq_true (by kernel_rfl)) (by unfold Func.isWrapper; first | (rw [if_pos (by decide +kernel)]; kernel_rfl) | (rw [if_neg (by decide +kernel)]; exact ⟨rfl, rfl⟩))
    (fun os started H enc _ => lifted os started H enc)

/-- ████ THE STATEMENT ████ -/
theorem proved : Rows.FnWithDefaultsIsIdempotentAndPositiveSaid :=
  over
end Go.Proofs.Qxb6002370a.fnWithDefaultsIsIdempotentAndPositive
