/- The proof of 'Rows.FnTwoDigitsReadsBackWhatWasWrittenSaid'. -/
import Derived.Test.Qxb6002370aRows
import Derived.WalkKit
import Derived.ProofKit
import Derived.OpenShut
import Derived.WalkSpells
import Derived.Deep.QuietTactic
import Derived.BigQuiet
import Derived.ShutString
namespace Go.Proofs.Qxb6002370a.fnTwoDigitsReadsBackWhatWasWritten
open Go.ChangeShapes Go.WideShapes Go.ChangeAt Go.RowKit
open Go.ChangeMaps (open_string shut_string)
set_option linter.unusedVariables false      -- a walk need not use every 'w<i>' (that an integer argument fits its kind)

theorem own : ownKnob Try.prog.godebug = none := by kernel_rfl

/-! ### The plain law: no Go in sight -/
theorem dig : ∀ q : Fin 10, ((⟨#[48, 49, 50, 51, 52, 53, 54, 55, 56, 57]⟩ : ByteArray).extract q.val (q.val + 1)).data = #[UInt8.ofNat (48 + q.val)] := by decide +kernel
theorem txt (x y a : ByteArray) (u v : UInt8) (hx : x.data = #[u]) (hy : y.data = #[v]) :
    (x ++ y ++ a).size = a.size + 2 ∧ (∃ h, (x ++ y ++ a)[0]'h = u) ∧ (∃ h, (x ++ y ++ a)[1]'h = v) := by
  have sx : x.size = 1 := by simp [← ByteArray.size_data, hx]
  have sy : y.size = 1 := by simp [← ByteArray.size_data, hy]
  have sz : (x ++ y ++ a).size = a.size + 2 := by simp [ByteArray.size_append]; omega
  refine ⟨sz, ⟨by omega, ?_⟩, ⟨by omega, ?_⟩⟩
  · have : (x ++ y ++ a).data[0]'(by rw [ByteArray.size_data]; omega) = u := by simp [ByteArray.data_append, hx, hy]
    exact this
  · have : (x ++ y ++ a).data[1]'(by rw [ByteArray.size_data]; omega) = v := by simp [ByteArray.data_append, hx, hy]
    exact this
theorem spell (n : Int) (a : ByteArray) (h0 : 0 ≤ n) (h1 : n ≤ 99) (s : ByteArray)
   (hs : s = (⟨#[48, 49, 50, 51, 52, 53, 54, 55, 56, 57]⟩ : ByteArray).extract (n / 10).toNat (n / 10 + 1).toNat ++ (⟨#[48, 49, 50, 51, 52, 53, 54, 55, 56, 57]⟩ : ByteArray).extract (n % 10).toNat (n % 10 + 1).toNat ++ a) :
    ∃ q r : Nat, q ≤ 9 ∧ r ≤ 9 ∧ (q : Int) * 10 + r = n ∧ s.size = a.size + 2 ∧ (∃ h, (s[0]'h).toNat = 48 + q) ∧ (∃ h, (s[1]'h).toNat = 48 + r) := by
  have hq : (n / 10).toNat ≤ 9 := by omega
  have hr : (n % 10).toNat ≤ 9 := by omega
  have eq : (n / 10 + 1).toNat = (n / 10).toNat + 1 := by omega
  have er : (n % 10 + 1).toNat = (n % 10).toNat + 1 := by omega
  rw [eq, er] at hs
  have hn : (((n / 10).toNat : Nat) : Int) * 10 + ((n % 10).toNat : Nat) = n := by omega
  generalize (n / 10).toNat = q at *
  generalize (n % 10).toNat = r at *
  subst hs
  obtain ⟨t1, ⟨i0, t2⟩, ⟨i1, t3⟩⟩ := txt _ _ a _ _ (dig ⟨q, by omega⟩) (dig ⟨r, by omega⟩)
  refine ⟨q, r, hq, hr, hn, t1, ⟨i0, ?_⟩, ⟨i1, ?_⟩⟩
  · rw [t2]; simp; omega
  · rw [t3]; simp; omega
theorem ret_int {k : IntKind} {a b : Int} (h : a = b) : Ending.returned (.int k a) = .returned (.int k b) := by rw [h]
theorem ret_bool {a b : Bool} (h : a = b) : Ending.returned (.bool a) = .returned (.bool b) := by rw [h]
theorem ret_pair {a b : Int} {x y : Bool} (h : a = b) (k : x = y) : Ending.returned (.tuple #[.int .i64 a, .bool x]) = .returned (.tuple #[.int .i64 b, .bool y]) := by rw [h, k]

/-! ### The callees -/
theorem skip2 (t : ByteArray) (w : World) (hs : t.size = 2) (d : ∀ k (h : k < t.size), 48 ≤ (t[k].toNat : Int) ∧ (t[k].toNat : Int) ≤ 57) :
    Calls Try.prog 21 #[.string t] w fun e w' => e = .returned (.int .i64 2) ∧ w' = w := by
  go_enter Try.func21, Try.ntmps21
  go_wp2
  go_loop [3] (fun i => ∃ k : Nat, k ≤ 2 ∧ i = .int .i64 k) (fun i => 2 - (intOf i).toNat)
  case atStart => exact ⟨0, Nat.zero_le _, rfl⟩
  case round =>
    obtain ⟨k, hk, rfl⟩ := hrel
    by_cases hlt : k < 2
    · have hl : k < t.size := by omega
      obtain ⟨d1, d2⟩ := d k hl
      go_wp2
      go_round
      case rel => exact ⟨k + 1, by omega, by go_num⟩
      case measure => simp [intOf]; omega
    · go_wp2
      go_ret
      exact ⟨ret_int (by omega), rfl⟩

theorem two (s : ByteArray) (lo hi : Int) (w : World) (hs : 2 ≤ s.size) (hm : s.size ≤ 100000) (q r : Nat) (hq : q ≤ 9) (hr : r ≤ 9)
    (h0 : ∃ h, (s[0]'h).toNat = 48 + q) (h1 : ∃ h, (s[1]'h).toNat = 48 + r) :
    Calls Try.prog 22 #[.string s, .int .i64 lo, .int .i64 hi] w fun e w' => e = .returned (.tuple #[.int .i64 ((q : Int) * 10 + r), .bool (decide (lo ≤ (q : Int) * 10 + r ∧ (q : Int) * 10 + r ≤ hi))]) ∧ Grown w w' := by
  obtain ⟨i0, h0⟩ := h0
  obtain ⟨i1, h1⟩ := h1
  have hsz : (s.extract 0 2).size = 2 := by simp; omega
  have hd : ∀ k (h : k < (s.extract 0 2).size), 48 ≤ ((s.extract 0 2)[k].toNat : Int) ∧ ((s.extract 0 2)[k].toNat : Int) ≤ 57 := by
    intro k h
    have hk : k = 0 ∨ k = 1 := by omega
    rcases hk with rfl | rfl
    · simp [ByteArray.getElem_extract, h0]; omega
    · simp [ByteArray.getElem_extract, h1]; omega
  have hsk := fun w => skip2 (s.extract 0 2) w hsz hd
  have HS : Hid (∀ w : World, Calls Try.prog 21 #[.string (s.extract 0 2)] w fun e w' => e = .returned (.int .i64 2) ∧ w' = w) := hsk
  clear hsk hd hsz
  have hq' : (q : Int) ≤ 9 := by omega
  have hr' : (r : Int) ≤ 9 := by omega
  go_enter Try.func22, Try.ntmps22
  go_wp2_with (go_at_call 21; refine (HS.out _).mono ?_; rintro e w' ⟨rfl, rfl⟩)
  go_quiet (fail)
  go_wp2
  all_goals
    go_ret2
    refine ⟨ret_pair (by omega) ?_, Grown.refl _⟩
    rw [Bool.eq_iff_iff]
    simp
    omega

theorem zzTwo (s : ByteArray) (n lo hi : Int) (w : World) (hs : 2 ≤ s.size) (hm : s.size ≤ 100000) (q r : Nat) (hq : q ≤ 9) (hr : r ≤ 9) (hn : (q : Int) * 10 + r = n)
    (h0 : ∃ h, (s[0]'h).toNat = 48 + q) (h1 : ∃ h, (s[1]'h).toNat = 48 + r) :
    Calls Try.prog 15 #[.string s, .int .i64 lo, .int .i64 hi] w fun e w' => e = .returned (.tuple #[.int .i64 n, .bool (decide (lo ≤ n ∧ n ≤ hi))]) ∧ Grown w w' := by
  have HS : Hid (∀ w : World, Calls Try.prog 22 #[.string s, .int .i64 lo, .int .i64 hi] w fun e w' => e = .returned (.tuple #[.int .i64 n, .bool (decide (lo ≤ n ∧ n ≤ hi))]) ∧ Grown w w') := by
    intro w
    rw [← hn]
    exact two s lo hi w hs hm q r hq hr h0 h1
  clear hn h0 h1
  go_enter Try.func15, Try.ntmps15
  go_wp2_with (go_at_call 22; refine (HS.out _).mono ?_; rintro e w' ⟨rfl, hg⟩)
  go_ret2
  exact ⟨ret_pair rfl (by simp), hg⟩

theorem zzBytes (a0 : Int) (a1 : ByteArray) (a2 : Int) (a3 : Int) (w1 : a1.size ≤ 65536) (w : World) :
    Calls Try.prog 14 #[.int .i64 a0, .string a1, .int .i64 a2, .int .i64 a3] w fun e w' => e = .returned (.bool true) ∧ w' = w := by
  go_enter Try.func14, Try.ntmps14
  go_wp2
  go_ret
  exact ⟨rfl, rfl⟩

/-- The main way: a short text, n from 0 to 99. -/
theorem main (a0 : Int) (a1 : ByteArray) (a2 : Int) (a3 : Int) (w1 : a1.size ≤ 65536) (w : World) (h0 : 0 ≤ a0) (h1 : a0 ≤ 99) :
    Calls Try.prog 7 #[.int .i64 a0, .string a1, .int .i64 a2, .int .i64 a3] w fun e w' => e = .returned (.bool true) ∧ Grown w w' := by
  have HS : Hid (∀ w : World, Calls Try.prog 15 #[.string ((⟨#[48, 49, 50, 51, 52, 53, 54, 55, 56, 57]⟩ : ByteArray).extract (a0 / 10).toNat (a0 / 10 + 1).toNat ++ (⟨#[48, 49, 50, 51, 52, 53, 54, 55, 56, 57]⟩ : ByteArray).extract (a0 % 10).toNat (a0 % 10 + 1).toNat ++ a1), .int .i64 a2, .int .i64 a3] w fun e w' => e = .returned (.tuple #[.int .i64 a0, .bool (decide (a2 ≤ a0 ∧ a0 ≤ a3))]) ∧ Grown w w') := by
    intro w
    obtain ⟨q, r, hq, hr, hn, hz, g0, g1⟩ := spell a0 a1 h0 h1 _ rfl
    exact zzTwo _ a0 a2 a3 w (by omega) (by omega) q r hq hr hn g0 g1
  by_cases c2 : a2 ≤ a0 <;> by_cases c3 : a0 ≤ a3
  all_goals
    go_enter Try.func7, Try.ntmps7
    go_wp2_with (go_at_call 14; refine (zzBytes _ _ _ _ w1 _).mono ?_; rintro e w' ⟨rfl, rfl⟩)
    go_quiet (fail)
    go_wp2_with (go_at_call 15; refine (HS.out _).mono ?_; rintro e w2 ⟨rfl, hg⟩)
    go_ret
    exact ⟨rfl, hg⟩

/-! ### STEP 1: THE WALK: the Go text returns true. 'Grown w w'': the world has at most new blocks (Derived/RowKit3.lean). Part the cases AHEAD of 'go_enter' where a test parts the walk; take each callee by a contract of your own. -/
theorem walk (a0 : Int) (a1 : ByteArray) (a2 : Int) (a3 : Int) (w0 : (Lit.int .i64 a0).wf = true) (w1 : a1.size ≤ maxLen) (w2 : (Lit.int .i64 a2).wf = true) (w3 : (Lit.int .i64 a3).wf = true) (w : World) :
    Calls Try.prog 7 #[.int .i64 a0, .string a1, .int .i64 a2, .int .i64 a3] w fun e w' => e = .returned (.bool true) ∧ Grown w w' := by
  unfold maxLen at w1
  by_cases c0 : a1.size ≤ 65536
  · by_cases c1 : a0 < 0
    · go_enter Try.func7, Try.ntmps7
      go_wp2_with (go_at_call 14; refine (zzBytes _ _ _ _ c0 _).mono ?_; rintro e w' ⟨rfl, rfl⟩)
      go_ret
      exact ⟨rfl, Grown.refl _⟩
    · by_cases c2 : 99 < a0
      · go_enter Try.func7, Try.ntmps7
        go_wp2_with (go_at_call 14; refine (zzBytes _ _ _ _ c0 _).mono ?_; rintro e w' ⟨rfl, rfl⟩)
        go_ret
        exact ⟨rfl, Grown.refl _⟩
      · exact main a0 a1 a2 a3 c0 w (by omega) (by omega)
  · by_cases c1 : 1048576 < a1.size
    · go_enter Try.func7, Try.ntmps7
      go_wp2
      go_ret
      exact ⟨rfl, Grown.refl _⟩
    · go_enter Try.func7, Try.ntmps7
      go_wp2
      go_ret
      exact ⟨rfl, Grown.refl _⟩

/-! ### THE ROW's STEP: WRITTEN OUT: LEAVE IT -/
set_option maxRecDepth 100000 in
theorem lifted (os : Os) (started : os.Started) (H : Type) (enc : TypeId × Value → H) :
    ReturnsInHanded {} Try.checked os 7 .any (Rows.fnTwoDigitsReadsBackWhatWasWrittenSpec.pre6 enc Try.prog Try.f7 Rows.fnTwoDigitsReadsBackWhatWasWrittenRow.domain false) (Rows.fnTwoDigitsReadsBackWhatWasWrittenSpec.post enc Try.prog Try.f7 false true false false) := by
  refine returnsInHanded_of_change (C := Try.checked) own started (by kernel_rfl) Try.func7
    (ChangeSpec.witness6 (enc := enc) (C := Try.checked) false ⟨#[], #[.int .i64 0, .string ByteArray.empty, .int .i64 0, .int .i64 0], []⟩ 8 (by kernel_rfl) (by kernel_rfl) (by kernel_rfl) (by kernel_rfl)) ?_
  intro W base args ds gs before hval0 hW hcnd _
  have hval : ∀ (j : Nat) t v, Try.f7.params[j]? = some t → args[j]? = some v → Value.okWide Try.prog W .any base t v := hval0
  have hW' := hW
  obtain ⟨p, q, hA0, hV, rfl, hfz, hnd⟩ := hW
  have hA : DataW.TrodAll enc Try.prog W 0 (fun _ => true) true Try.f7.params.toList args.toList ds p := hA0
  rw [Try.params7] at hA hval
  obtain ⟨v0, vs0, d0, ds0, p0, q0, hargs, rfl, rfl, h0, r0⟩ := trodAll_cons hA
  obtain ⟨v1, vs1, d1, ds1, p1, q1, rfl, rfl, rfl, h1, r1⟩ := trodAll_cons r0
  obtain ⟨v2, vs2, d2, ds2, p2, q2, rfl, rfl, rfl, h2, r2⟩ := trodAll_cons r1
  obtain ⟨v3, vs3, d3, ds3, p3, q3, rfl, rfl, rfl, h3, r3⟩ := trodAll_cons r2
  obtain ⟨rfl, rfl, rfl⟩ := trodAll_nil r3
  obtain rfl : args = #[v0, v1, v2, v3] := by cases args; simp_all
  obtain ⟨rfl, rfl⟩ := trodVars_none hV
  obtain ⟨a0, rfl, rfl, rfl, w0⟩ := open_int Try.underlying3 (hval 0 3 v0 rfl rfl) h0
  obtain ⟨a1, rfl, rfl, rfl, w1⟩ := open_string Try.underlying9 (hval 1 9 v1 rfl rfl) h1
  obtain ⟨a2, rfl, rfl, rfl, w2⟩ := open_int Try.underlying3 (hval 2 3 v2 rfl rfl) h2
  obtain ⟨a3, rfl, rfl, rfl, w3⟩ := open_int Try.underlying3 (hval 3 3 v3 rfl rfl) h3
  clear hA0 hval0
  simp only [List.append_nil] at hW'
  refine (walk a0 a1 a2 a3 w0 w1 w2 w3 W).mono fun e W' ⟨he, hg⟩ => ?_
  subst he
  exact ⟨_, rfl, post_of_same (pa := []) (pv := []) hW' (fun _ _ _ => (trodAll_cons_mk (shut_bool Try.underlying4 _) trodAll_mk0)) (fun sp _ => (trodAll_cons_mk (shut_int Try.underlying3 w0) (trodAll_cons_mk (shut_string Try.underlying9 w1) (trodAll_cons_mk (shut_int Try.underlying3 w2) (trodAll_cons_mk (shut_int Try.underlying3 w3) trodAll_mk0))))) (fun _ _ => rfl) rfl
    (hg.frame _) hg.2.1 (ok_one (by kernel_rfl) rfl (okWide_bool_mk Try.underlying4 _))⟩

theorem over : Rows.fnTwoDigitsReadsBackWhatWasWrittenRow.holds Try.pinned (OpenSpec.ofChange Rows.fnTwoDigitsReadsBackWhatWasWrittenSpec) :=
  OpenClaim.holds_of_wide 7 Try.f7 rfl rfl rfl rfl rfl rfl rfl ⟨rfl, rfl, rfl, rfl, rfl⟩ rfl rfl rfl rfl rfl (by kernel_rfl) Try.func7 (by kernel_rfl)
    (of_decide_eq_true (by kernel_rfl)) (by unfold Func.isWrapper; first | (rw [if_pos (by decide +kernel)]; kernel_rfl) | (rw [if_neg (by decide +kernel)]; exact ⟨rfl, rfl⟩))
    (fun os started H enc _ => lifted os started H enc)

/-- ████ THE STATEMENT ████ -/
theorem proved : Rows.FnTwoDigitsReadsBackWhatWasWrittenSaid :=
  over
end Go.Proofs.Qxb6002370a.fnTwoDigitsReadsBackWhatWasWritten
