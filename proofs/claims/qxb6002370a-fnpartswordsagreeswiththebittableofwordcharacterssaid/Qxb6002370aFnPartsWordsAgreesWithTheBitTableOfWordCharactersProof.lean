/- The proof of 'Rows.FnPartsWordsAgreesWithTheBitTableOfWordCharactersSaid'. -/
import Derived.Test.Qxb6002370aRows
import Derived.WalkKit
import Derived.ProofKit
import Derived.OpenShut
import Derived.ShutString
namespace Go.Proofs.Qxb6002370a.fnPartsWordsAgreesWithTheBitTableOfWordCharacters
open Go.ChangeShapes Go.WideShapes Go.ChangeAt Go.RowKit
open Go.ChangeMaps (open_string shut_string)
set_option linter.unusedVariables false      -- a walk need not use every 'w<i>' (that an integer argument fits its kind)

theorem own : ownKnob Try.prog.godebug = none := by kernel_rfl

/-! ### The plain law: no Go in sight -/
def pw (r : Int) : Bool := !(decide (97 ≤ r ∧ r ≤ 122) || decide (65 ≤ r ∧ r ≤ 90) || decide (48 ≤ r ∧ r ≤ 57) || decide (r = 95) || decide (r = 38))

theorem low_all : ∀ n : Fin 64, (pw (n.val : Int) == !(bits BinOp.and IntKind.u64 (287949176052908032 / 2 ^ n.val) 1 == 1)) = true := by decide +kernel
theorem high_all : ∀ n : Fin 64, (pw ((n.val : Int) + 64) == !(bits BinOp.and IntKind.u64 (576460745995190270 / 2 ^ n.val) 1 == 1)) = true := by decide +kernel
theorem low (a : Int) (h0 : 0 ≤ a) (h1 : a < 64) : (pw a == !(bits BinOp.and IntKind.u64 (287949176052908032 / 2 ^ a.toNat) 1 == 1)) = true := by
  have h := low_all ⟨a.toNat, by omega⟩
  simpa [Int.toNat_of_nonneg h0] using h
theorem high (a : Int) (h0 : 64 ≤ a) (h1 : a < 128) : (pw a == !(bits BinOp.and IntKind.u64 (576460745995190270 / 2 ^ (a - 64).toNat) 1 == 1)) = true := by
  have h := high_all ⟨(a - 64).toNat, by omega⟩
  have e : (((a - 64).toNat : Int)) + 64 = a := by omega
  simp only [e] at h
  exact h
theorem out (a : Int) (h : a < 0 ∨ 128 ≤ a) : pw a = true := by
  simp [pw]
  omega
theorem ret_bool {a b : Bool} (h : a = b) : Ending.returned (.bool a) = .returned (.bool b) := by rw [h]

/-! ### The callee -/
theorem pw_any (r : Int) (w : World) :
    Calls Try.prog 11 #[.int .i32 r] w fun e w' => e = .returned (.bool (pw r)) ∧ w' = w := by
  go_enter Try.func11, Try.ntmps11
  go_wp2
  all_goals
    go_ret
    refine ⟨ret_bool ?_, rfl⟩
    first | (unfold pw; rw [Bool.eq_iff_iff]; simp; omega) | (unfold pw; simp; omega) | (simp [pw])

/-! ### STEP 1: THE WALK: the Go text returns true. 'Grown w w'': the world has at most new blocks (Derived/RowKit3.lean). Part the cases AHEAD of 'go_enter' where a test parts the walk; take each callee by a contract of your own. -/
theorem walk (a0 : Int) (w0 : (Lit.int .i32 a0).wf = true) (w : World) :
    Calls Try.prog 5 #[.int .i32 a0] w fun e w' => e = .returned (.bool true) ∧ Grown w w' := by
  by_cases n0 : a0 < 0
  · have ho := out a0 (Or.inl n0)
    go_enter Try.func5, Try.ntmps5
    go_wp2_with (go_at_call 11; refine (pw_any _ _).mono ?_; rintro e w' ⟨rfl, rfl⟩)
    go_ret
    exact ⟨ret_bool (by simp), Grown.refl _⟩
  · by_cases n1 : a0 < 64
    · have h0 : 0 ≤ a0 := by omega
      have HL : Hid _ := low a0 h0 n1
      go_enter Try.func5, Try.ntmps5
      go_wp2_with (go_at_call 11; refine (pw_any _ _).mono ?_; rintro e w' ⟨rfl, rfl⟩)
      go_ret
      exact ⟨ret_bool HL.out, Grown.refl _⟩
    · by_cases n2 : a0 < 128
      · have h0 : 64 ≤ a0 := by omega
        have HL : Hid _ := high a0 h0 n2
        go_enter Try.func5, Try.ntmps5
        go_wp2_with (go_at_call 11; refine (pw_any _ _).mono ?_; rintro e w' ⟨rfl, rfl⟩)
        go_ret
        exact ⟨ret_bool HL.out, Grown.refl _⟩
      · have ho := out a0 (Or.inr (by omega))
        go_enter Try.func5, Try.ntmps5
        go_wp2_with (go_at_call 11; refine (pw_any _ _).mono ?_; rintro e w' ⟨rfl, rfl⟩)
        go_ret
        exact ⟨ret_bool (by simp), Grown.refl _⟩

/-! ### THE ROW's STEP: WRITTEN OUT: LEAVE IT -/
set_option maxRecDepth 100000 in
theorem lifted (os : Os) (started : os.Started) (H : Type) (enc : TypeId × Value → H) :
    ReturnsInHanded {} Try.checked os 5 .any (Rows.fnPartsWordsAgreesWithTheBitTableOfWordCharactersSpec.pre6 enc Try.prog Try.f5 Rows.fnPartsWordsAgreesWithTheBitTableOfWordCharactersRow.domain false) (Rows.fnPartsWordsAgreesWithTheBitTableOfWordCharactersSpec.post enc Try.prog Try.f5 false true false false) := by
  refine returnsInHanded_of_change (C := Try.checked) own started (by kernel_rfl) Try.func5
    (ChangeSpec.witness6 (enc := enc) (C := Try.checked) false ⟨#[], #[.int .i32 0], []⟩ 8 (by kernel_rfl) (by kernel_rfl) (by kernel_rfl) (by kernel_rfl)) ?_
  intro W base args ds gs before hval0 hW hcnd _
  have hval : ∀ (j : Nat) t v, Try.f5.params[j]? = some t → args[j]? = some v → Value.okWide Try.prog W .any base t v := hval0
  have hW' := hW
  obtain ⟨p, q, hA0, hV, rfl, hfz, hnd⟩ := hW
  have hA : DataW.TrodAll enc Try.prog W 0 (fun _ => true) true Try.f5.params.toList args.toList ds p := hA0
  rw [Try.params5] at hA hval
  obtain ⟨v0, vs0, d0, ds0, p0, q0, hargs, rfl, rfl, h0, r0⟩ := trodAll_cons hA
  obtain ⟨rfl, rfl, rfl⟩ := trodAll_nil r0
  obtain rfl : args = #[v0] := by cases args; simp_all
  obtain ⟨rfl, rfl⟩ := trodVars_none hV
  obtain ⟨a0, rfl, rfl, rfl, w0⟩ := open_int Try.underlying21 (hval 0 21 v0 rfl rfl) h0
  clear hA0 hval0
  simp only [List.append_nil] at hW'
  refine (walk a0 w0 W).mono fun e W' ⟨he, hg⟩ => ?_
  subst he
  exact ⟨_, rfl, post_of_same (pa := []) (pv := []) hW' (fun _ _ _ => (trodAll_cons_mk (shut_bool Try.underlying4 _) trodAll_mk0)) (fun sp _ => (trodAll_cons_mk (shut_int Try.underlying21 w0) trodAll_mk0)) (fun _ _ => rfl) rfl
    (hg.frame _) hg.2.1 (ok_one (by kernel_rfl) rfl (okWide_bool_mk Try.underlying4 _))⟩

theorem over : Rows.fnPartsWordsAgreesWithTheBitTableOfWordCharactersRow.holds Try.pinned (OpenSpec.ofChange Rows.fnPartsWordsAgreesWithTheBitTableOfWordCharactersSpec) :=
  OpenClaim.holds_of_wide 5 Try.f5 rfl rfl rfl rfl rfl rfl rfl ⟨rfl, rfl, rfl, rfl, rfl⟩ rfl rfl rfl rfl rfl (by kernel_rfl) Try.func5 (by kernel_rfl)
    (of_decide_eq_true (by kernel_rfl)) (by unfold Func.isWrapper; first | (rw [if_pos (by decide +kernel)]; kernel_rfl) | (rw [if_neg (by decide +kernel)]; exact ⟨rfl, rfl⟩))
    (fun os started H enc _ => lifted os started H enc)

/-- ████ THE STATEMENT ████ -/
theorem proved : Rows.FnPartsWordsAgreesWithTheBitTableOfWordCharactersSaid :=
  over
end Go.Proofs.Qxb6002370a.fnPartsWordsAgreesWithTheBitTableOfWordCharacters
