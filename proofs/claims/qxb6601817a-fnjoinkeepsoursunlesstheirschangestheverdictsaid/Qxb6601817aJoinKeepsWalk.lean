/- Qxb6601817a: the walk of FnJoinKeepsOursUnlessTheirsChangesTheVerdict. -/
import Derived.Test.Qxb6601817aJoinRegions
import Derived.LaidEql
import Derived.ChangeKeysEq
import Derived.WalkSmall
import Derived.Deep.QuietTactic
import Derived.BigQuiet
namespace Go.Proofs.Qxb6601817a.Join
open Go.ChangeShapes Go.WideShapes Go.ChangeAt Go.RowKit
set_option linter.unusedSimpArgs false
set_option linter.unusedVariables false

/-! ### The plain law -/
theorem cls_jn (v : Addr → Bool) (o t : Option Addr) : cls v (jn v o t) = jc (cls v o) (cls v t) := by
  unfold jn cls jc
  cases t with
  | none => cases o with
    | none => rfl
    | some oa => cases h1 : v oa <;> simp [h1]
  | some ta => cases o with
    | none => cases h2 : v ta <;> simp [h2]
    | some oa => cases h1 : v oa <;> cases h2 : v ta <;> simp [h1, h2]
theorem jn_keeps (v : Addr → Bool) (o t : Option Addr) (h : cls v o = jc (cls v o) (cls v t)) : jn v o t = o := by
  unfold cls jc at h
  unfold jn
  cases t with
  | none => rfl
  | some ta => cases o with
    | none => cases h2 : v ta <;> simp [h2] at h
    | some oa => cases h1 : v oa <;> cases h2 : v ta <;> simp [h1, h2] at h ⊢
theorem jn_takes (v : Addr → Bool) (o t : Option Addr) (h : cls v o ≠ jc (cls v o) (cls v t)) : jn v o t = t := by
  unfold cls jc at h
  unfold jn
  cases t with
  | none => cases o with
    | none => rfl
    | some oa => cases h1 : v oa <;> simp [h1] at h
  | some ta => cases o with
    | none => rfl
    | some oa => cases h1 : v oa <;> cases h2 : v ta <;> simp [h1, h2] at h ⊢

/-! ### A pointer against itself -/
theorem info22 : (Try.prog.info? 22).isSome = true := by kernel_rfl
theorem info4 : (Try.prog.info? 4).isSome = true := by kernel_rfl
theorem ptr_same (d : Nat) (p : Option Addr) (w0 : World) : (Op.equalIn (d + 1) 22 (.pointer p) (.pointer p)).run Try.prog w0 = .ok true w0 := by
  obtain ⟨i, hi⟩ := Option.isSome_iff_exists.1 info4
  cases p with
  | none => simp [Op.equalIn, run_underlying Try.underlying22]
  | some a => simp [Op.equalIn, run_underlying Try.underlying22, sizeOf, typeInfo, hi, run_sameAddr_same]

theorem neq_ptr (p : Option Addr) (w0 : World) : (binOp .neq 22 (.pointer p) (.pointer p)).run Try.prog w0 = .ok (.bool false) w0 := by
  simp only [binOp]
  simp [Op.equal, Op.maxDepth, ptr_same 9999 p w0]

theorem start3 (o t : Nat → Option Addr) (w : World) (W : World) (hW : W = ((w.alloc (.cells #[.pointer (o 0), .pointer (o 1), .pointer (o 2), .pointer (o 3), .pointer (o 4), .pointer (o 5), .pointer (o 6), .pointer (o 7), .pointer (o 8), .pointer (o 9), .pointer (o 10)] 23)).alloc (.cells #[.pointer (t 0), .pointer (t 1), .pointer (t 2), .pointer (t 3), .pointer (t 4), .pointer (t 5), .pointer (t 6), .pointer (t 7), .pointer (t 8), .pointer (t 9), .pointer (t 10)] 23))) : Lay W w.heap.size o ∧ Lay W (w.heap.size + 1) t ∧ Below w.heap.size w W ∧ w.heap.size + 2 ≤ W.heap.size := by
  subst hW
  have s1 : ∀ o1 : Obj, (w.alloc o1).heap.size = w.heap.size + 1 := fun o1 => by simp
  have s2 : ∀ o1 o2 : Obj, ((w.alloc o1).alloc o2).heap.size = w.heap.size + 1 + 1 := fun o1 o2 => by simp
  refine ⟨?_, ?_, ?_, ?_⟩
  · exact (Lay.new w o 23).alloc (by rw [s1]; omega) _
  · have h := Lay.new (w.alloc (.cells #[.pointer (o 0), .pointer (o 1), .pointer (o 2), .pointer (o 3), .pointer (o 4), .pointer (o 5), .pointer (o 6), .pointer (o 7), .pointer (o 8), .pointer (o 9), .pointer (o 10)] 23)) t 23
    rw [s1] at h
    exact h
  · exact ((Below.refl _ _).alloc (Nat.le_refl _) _).alloc (by rw [s1]; omega) _
  · rw [s2]; omega

set_option maxRecDepth 100000 in
set_option maxHeartbeats 8000000 in
theorem law3 (v : Addr → Bool) (o t : Nat → Option Addr) (w : World) (hgo : Good w w.heap.size v o) (hgt : Good w w.heap.size v t) :
    Calls Try.prog 3 #[.agg #[.pointer (o 0), .pointer (o 1), .pointer (o 2), .pointer (o 3), .pointer (o 4), .pointer (o 5), .pointer (o 6), .pointer (o 7), .pointer (o 8), .pointer (o 9), .pointer (o 10)], .agg #[.pointer (t 0), .pointer (t 1), .pointer (t 2), .pointer (t 3), .pointer (t 4), .pointer (t 5), .pointer (t 6), .pointer (t 7), .pointer (t 8), .pointer (t 9), .pointer (t 10)]] w fun e w' => e = .returned (.bool true) ∧ Below w.heap.size w w' := by
  have GO := hide hgo
  have GT := hide hgt
  clear hgo hgt
  go_enter Try.func3, Try.ntmps3
  go_upto_region 0 with fail
  go_cut [2, 3, 4] (fun s2 s3 s4 w' => s2 = .pointer (some ⟨w.heap.size, 0, none⟩) ∧ s3 = .pointer (some ⟨w.heap.size + 1, 0, none⟩) ∧ s4 = .bool false ∧ Lay w' w.heap.size o ∧ Lay w' (w.heap.size + 1) t ∧ Below w.heap.size w w' ∧ w.heap.size + 2 ≤ w'.heap.size)
  case first =>
    go_wp2_with fail
    go_meet
    case rel => exact ⟨rfl, rfl, rfl, start3 o t w _ rfl⟩
  case rest =>
    obtain ⟨rfl, rfl, rfl, h1, h2, h4, h5⟩ := hcut
    have H1 := hide h1
    have H2 := hide h2
    clear h1 h2
    go_wp2_with fail
    go_cut [5] (fun s5 w' => ∃ g, s5 = .pointer (some ⟨g, 0, none⟩) ∧ Lay w' g (joinF v o t 8) ∧ Lay w' w.heap.size o ∧ Lay w' (w.heap.size + 1) t ∧ Below w.heap.size w w' ∧ w.heap.size + 2 ≤ w'.heap.size)
    case first =>
      refine wp_region_noPanic ?_
      refine wp_region_held_drew (S := fun w' => Below wc.heap.size wc w') (by kernel_rfl) (Below.refl _ _).drew (fun hHeld => ?_)
      refine wpAnyH_take (i := 0) (oi := _) (v := _) rfl (by kernel_rfl) (by kernel_rfl) (by kernel_rfl) (fun _ _ _ h => h) (yieldsIf_load_mid (by rfl) 23 _ rfl _ _ rfl [.pointer (o 0), .pointer (o 1), .pointer (o 2), .pointer (o 3), .pointer (o 4), .pointer (o 5), .pointer (o 6), .pointer (o 7), .pointer (o 8), .pointer (o 9), .pointer (o 10)] _ (fun _ h => row_in (unhide H1) (by omega) h) Try.underlying23 rfl size23) hHeld ?_
      try simp only [Act.put, List.getElem_toArray, List.getElem_cons_zero, List.getElem_cons_succ, List.setIfInBounds_toArray, List.set_cons_zero, List.set_cons_succ]
      refine wpAnyH_take (i := 2) (oi := _) (v := _) rfl (by kernel_rfl) (by kernel_rfl) (by kernel_rfl) (fun _ _ _ h => h) (yieldsIf_load_mid (by rfl) 23 _ rfl _ _ rfl [.pointer (t 0), .pointer (t 1), .pointer (t 2), .pointer (t 3), .pointer (t 4), .pointer (t 5), .pointer (t 6), .pointer (t 7), .pointer (t 8), .pointer (t 9), .pointer (t 10)] _ (fun _ h => row_in (unhide H2) (by omega) h) Try.underlying23 rfl size23) hHeld ?_
      try simp only [Act.put, List.getElem_toArray, List.getElem_cons_zero, List.getElem_cons_succ, List.setIfInBounds_toArray, List.set_cons_zero, List.set_cons_succ]
      refine wpAnyH_ready (rs := [1, 6]) (by kernel_rfl) (by simp) ?_
      refine AllReadyH.cons (o := _) rfl (fun K hK => ?_) ?_
      · go_simp
        refine (checksOf_any _ _).mono ?_
        rintro e w1 ⟨rfl, hb1⟩
        go_wp2_with fail
        refine hK.out _ _ (keep_call hHeld hb1) (fun hHeld => ?_)
        clear hK K
        try simp only [Act.put, List.getElem_toArray, List.getElem_cons_zero, List.getElem_cons_succ, List.setIfInBounds_toArray, List.set_cons_zero, List.set_cons_succ]
        refine wpAnyH_ready (rs := [3, 6]) (by kernel_rfl) (by simp) ?_
        refine AllReadyH.cons (o := _) rfl (fun K hK => ?_) ?_
        · go_simp
          refine (checksOf_any _ _).mono ?_
          rintro e w2 ⟨rfl, hb2⟩
          go_wp2_with fail
          refine hK.out _ _ (keep_call hHeld hb2) (fun hHeld => ?_)
          clear hK K
          try simp only [Act.put, List.getElem_toArray, List.getElem_cons_zero, List.getElem_cons_succ, List.setIfInBounds_toArray, List.set_cons_zero, List.set_cons_succ]
          refine wpAnyH_ready (rs := [4, 6]) (by kernel_rfl) (by simp) ?_
          refine AllReadyH.cons (o := _) rfl (fun K hK => ?_) ?_
          · go_simp
            refine (zzjoin_at w v o t (unhide GO) (unhide GT) _ (by exact h4.trans (hHeld.mono h4.size))).mono ?_
            rintro e w3 ⟨rfl, hb3⟩
            go_wp2_with fail
            refine hK.out _ _ (keep_call hHeld hb3) (fun hHeld => ?_)
            clear hK K
            try simp only [Act.put, List.getElem_toArray, List.getElem_cons_zero, List.getElem_cons_succ, List.setIfInBounds_toArray, List.set_cons_zero, List.set_cons_succ]
            refine wpAnyH_ready (rs := [5, 6]) (by kernel_rfl) (by simp) ?_
            refine AllReadyH.cons (o := _) rfl (fun K hK => ?_) ?_
            · go_simp
              refine (fieldsOf_any _ _).mono ?_
              rintro e w4 ⟨rfl, hb4⟩
              go_wp2_with fail
              refine hK.out _ _ (keep_call hHeld hb4) (fun hHeld => ?_)
              clear hK K
              try simp only [Act.put, List.getElem_toArray, List.getElem_cons_zero, List.getElem_cons_succ, List.setIfInBounds_toArray, List.set_cons_zero, List.set_cons_succ]
              refine wpAnyH_ready (rs := [6]) (by kernel_rfl) (by simp) ?_
              refine AllReadyH.cons (o := _) rfl (fun K hK => ?_) ?_
              · go_simp
                have hg := hHeld.size
                refine hK.out _ _ (keep_alloc hHeld _) (fun hHeld => ?_)
                clear hK K
                have hth := there_new w4 23
                try simp only [Act.put, List.getElem_toArray, List.getElem_cons_zero, List.getElem_cons_succ, List.setIfInBounds_toArray, List.set_cons_zero, List.set_cons_succ]
                refine wpAnyH_ready (rs := [7]) (by kernel_rfl) (by simp) ?_
                refine AllReadyH.cons (o := _) rfl (fun K hK => ?_) ?_
                · rw [if_pos (by rfl)]
                  refine wp_store_mid 23 _ _ rfl w4.heap.size 0 #[.pointer (joinF v o t 8 0), .pointer (joinF v o t 8 1), .pointer (joinF v o t 8 2), .pointer (joinF v o t 8 3), .pointer (joinF v o t 8 4), .pointer (joinF v o t 8 5), .pointer (joinF v o t 8 6), .pointer (joinF v o t 8 7), .pointer (joinF v o t 8 8), .pointer (joinF v o t 8 9), .pointer (joinF v o t 8 10)] rfl rfl hth size23 (one11 _) ?_
                  try simp only [Act.put, List.getElem_toArray, List.getElem_cons_zero, List.getElem_cons_succ, List.setIfInBounds_toArray, List.set_cons_zero, List.set_cons_succ]
                  refine hK.out _ _ (keep_store hHeld hg _ _) (fun hHeld => ?_)
                  clear hK K
                  refine wpAnyH_done (by kernel_rfl) ?_ _
                  refine NoPanic.normal ?_
                  go_wp2_with fail
                  go_meet
                  case rel => exact ⟨w4.heap.size, rfl, Lay.set (joinF v o t 8) hth, (unhide H1).below hHeld (by omega), (unhide H2).below hHeld (by omega), h4.trans (hHeld.mono h4.size), Nat.le_trans h5 hHeld.size⟩
                exact AllReadyH.nil
              exact AllReadyH.nil
            refine AllReadyH.cons (o := _) rfl (fun K hK => ?_) ?_
            · go_simp
              have hg := hHeld.size
              refine hK.out _ _ (keep_alloc hHeld _) (fun hHeld => ?_)
              clear hK K
              have hth := there_new w3 23
              try simp only [Act.put, List.getElem_toArray, List.getElem_cons_zero, List.getElem_cons_succ, List.setIfInBounds_toArray, List.set_cons_zero, List.set_cons_succ]
              refine wpAnyH_ready (rs := [5]) (by kernel_rfl) (by simp) ?_
              refine AllReadyH.cons (o := _) rfl (fun K hK => ?_) ?_
              · go_simp
                refine (fieldsOf_any _ _).mono ?_
                rintro e w5 ⟨rfl, hb5⟩
                go_wp2_with fail
                refine hK.out _ _ (keep_call hHeld hb5) (fun hHeld => ?_)
                clear hK K
                have hth := there_below hth hb5
                try simp only [Act.put, List.getElem_toArray, List.getElem_cons_zero, List.getElem_cons_succ, List.setIfInBounds_toArray, List.set_cons_zero, List.set_cons_succ]
                refine wpAnyH_ready (rs := [7]) (by kernel_rfl) (by simp) ?_
                refine AllReadyH.cons (o := _) rfl (fun K hK => ?_) ?_
                · rw [if_pos (by rfl)]
                  refine wp_store_mid 23 _ _ rfl w3.heap.size 0 #[.pointer (joinF v o t 8 0), .pointer (joinF v o t 8 1), .pointer (joinF v o t 8 2), .pointer (joinF v o t 8 3), .pointer (joinF v o t 8 4), .pointer (joinF v o t 8 5), .pointer (joinF v o t 8 6), .pointer (joinF v o t 8 7), .pointer (joinF v o t 8 8), .pointer (joinF v o t 8 9), .pointer (joinF v o t 8 10)] rfl rfl hth size23 (one11 _) ?_
                  try simp only [Act.put, List.getElem_toArray, List.getElem_cons_zero, List.getElem_cons_succ, List.setIfInBounds_toArray, List.set_cons_zero, List.set_cons_succ]
                  refine hK.out _ _ (keep_store hHeld hg _ _) (fun hHeld => ?_)
                  clear hK K
                  refine wpAnyH_done (by kernel_rfl) ?_ _
                  refine NoPanic.normal ?_
                  go_wp2_with fail
                  go_meet
                  case rel => exact ⟨w3.heap.size, rfl, Lay.set (joinF v o t 8) hth, (unhide H1).below hHeld (by omega), (unhide H2).below hHeld (by omega), h4.trans (hHeld.mono h4.size), Nat.le_trans h5 hHeld.size⟩
                exact AllReadyH.nil
              exact AllReadyH.nil
            exact AllReadyH.nil
          refine AllReadyH.cons (o := _) rfl (fun K hK => ?_) ?_
          · go_simp
            have hg := hHeld.size
            refine hK.out _ _ (keep_alloc hHeld _) (fun hHeld => ?_)
            clear hK K
            have hth := there_new w2 23
            try simp only [Act.put, List.getElem_toArray, List.getElem_cons_zero, List.getElem_cons_succ, List.setIfInBounds_toArray, List.set_cons_zero, List.set_cons_succ]
            refine wpAnyH_ready (rs := [4]) (by kernel_rfl) (by simp) ?_
            refine AllReadyH.cons (o := _) rfl (fun K hK => ?_) ?_
            · go_simp
              refine (zzjoin_at w v o t (unhide GO) (unhide GT) _ (by exact h4.trans (hHeld.mono h4.size))).mono ?_
              rintro e w6 ⟨rfl, hb6⟩
              go_wp2_with fail
              refine hK.out _ _ (keep_call hHeld hb6) (fun hHeld => ?_)
              clear hK K
              have hth := there_below hth hb6
              try simp only [Act.put, List.getElem_toArray, List.getElem_cons_zero, List.getElem_cons_succ, List.setIfInBounds_toArray, List.set_cons_zero, List.set_cons_succ]
              refine wpAnyH_ready (rs := [5]) (by kernel_rfl) (by simp) ?_
              refine AllReadyH.cons (o := _) rfl (fun K hK => ?_) ?_
              · go_simp
                refine (fieldsOf_any _ _).mono ?_
                rintro e w7 ⟨rfl, hb7⟩
                go_wp2_with fail
                refine hK.out _ _ (keep_call hHeld hb7) (fun hHeld => ?_)
                clear hK K
                have hth := there_below hth hb7
                try simp only [Act.put, List.getElem_toArray, List.getElem_cons_zero, List.getElem_cons_succ, List.setIfInBounds_toArray, List.set_cons_zero, List.set_cons_succ]
                refine wpAnyH_ready (rs := [7]) (by kernel_rfl) (by simp) ?_
                refine AllReadyH.cons (o := _) rfl (fun K hK => ?_) ?_
                · rw [if_pos (by rfl)]
                  refine wp_store_mid 23 _ _ rfl w2.heap.size 0 #[.pointer (joinF v o t 8 0), .pointer (joinF v o t 8 1), .pointer (joinF v o t 8 2), .pointer (joinF v o t 8 3), .pointer (joinF v o t 8 4), .pointer (joinF v o t 8 5), .pointer (joinF v o t 8 6), .pointer (joinF v o t 8 7), .pointer (joinF v o t 8 8), .pointer (joinF v o t 8 9), .pointer (joinF v o t 8 10)] rfl rfl hth size23 (one11 _) ?_
                  try simp only [Act.put, List.getElem_toArray, List.getElem_cons_zero, List.getElem_cons_succ, List.setIfInBounds_toArray, List.set_cons_zero, List.set_cons_succ]
                  refine hK.out _ _ (keep_store hHeld hg _ _) (fun hHeld => ?_)
                  clear hK K
                  refine wpAnyH_done (by kernel_rfl) ?_ _
                  refine NoPanic.normal ?_
                  go_wp2_with fail
                  go_meet
                  case rel => exact ⟨w2.heap.size, rfl, Lay.set (joinF v o t 8) hth, (unhide H1).below hHeld (by omega), (unhide H2).below hHeld (by omega), h4.trans (hHeld.mono h4.size), Nat.le_trans h5 hHeld.size⟩
                exact AllReadyH.nil
              exact AllReadyH.nil
            exact AllReadyH.nil
          exact AllReadyH.nil
        refine AllReadyH.cons (o := _) rfl (fun K hK => ?_) ?_
        · go_simp
          have hg := hHeld.size
          refine hK.out _ _ (keep_alloc hHeld _) (fun hHeld => ?_)
          clear hK K
          have hth := there_new w1 23
          try simp only [Act.put, List.getElem_toArray, List.getElem_cons_zero, List.getElem_cons_succ, List.setIfInBounds_toArray, List.set_cons_zero, List.set_cons_succ]
          refine wpAnyH_ready (rs := [3]) (by kernel_rfl) (by simp) ?_
          refine AllReadyH.cons (o := _) rfl (fun K hK => ?_) ?_
          · go_simp
            refine (checksOf_any _ _).mono ?_
            rintro e w8 ⟨rfl, hb8⟩
            go_wp2_with fail
            refine hK.out _ _ (keep_call hHeld hb8) (fun hHeld => ?_)
            clear hK K
            have hth := there_below hth hb8
            try simp only [Act.put, List.getElem_toArray, List.getElem_cons_zero, List.getElem_cons_succ, List.setIfInBounds_toArray, List.set_cons_zero, List.set_cons_succ]
            refine wpAnyH_ready (rs := [4]) (by kernel_rfl) (by simp) ?_
            refine AllReadyH.cons (o := _) rfl (fun K hK => ?_) ?_
            · go_simp
              refine (zzjoin_at w v o t (unhide GO) (unhide GT) _ (by exact h4.trans (hHeld.mono h4.size))).mono ?_
              rintro e w9 ⟨rfl, hb9⟩
              go_wp2_with fail
              refine hK.out _ _ (keep_call hHeld hb9) (fun hHeld => ?_)
              clear hK K
              have hth := there_below hth hb9
              try simp only [Act.put, List.getElem_toArray, List.getElem_cons_zero, List.getElem_cons_succ, List.setIfInBounds_toArray, List.set_cons_zero, List.set_cons_succ]
              refine wpAnyH_ready (rs := [5]) (by kernel_rfl) (by simp) ?_
              refine AllReadyH.cons (o := _) rfl (fun K hK => ?_) ?_
              · go_simp
                refine (fieldsOf_any _ _).mono ?_
                rintro e w10 ⟨rfl, hb10⟩
                go_wp2_with fail
                refine hK.out _ _ (keep_call hHeld hb10) (fun hHeld => ?_)
                clear hK K
                have hth := there_below hth hb10
                try simp only [Act.put, List.getElem_toArray, List.getElem_cons_zero, List.getElem_cons_succ, List.setIfInBounds_toArray, List.set_cons_zero, List.set_cons_succ]
                refine wpAnyH_ready (rs := [7]) (by kernel_rfl) (by simp) ?_
                refine AllReadyH.cons (o := _) rfl (fun K hK => ?_) ?_
                · rw [if_pos (by rfl)]
                  refine wp_store_mid 23 _ _ rfl w1.heap.size 0 #[.pointer (joinF v o t 8 0), .pointer (joinF v o t 8 1), .pointer (joinF v o t 8 2), .pointer (joinF v o t 8 3), .pointer (joinF v o t 8 4), .pointer (joinF v o t 8 5), .pointer (joinF v o t 8 6), .pointer (joinF v o t 8 7), .pointer (joinF v o t 8 8), .pointer (joinF v o t 8 9), .pointer (joinF v o t 8 10)] rfl rfl hth size23 (one11 _) ?_
                  try simp only [Act.put, List.getElem_toArray, List.getElem_cons_zero, List.getElem_cons_succ, List.setIfInBounds_toArray, List.set_cons_zero, List.set_cons_succ]
                  refine hK.out _ _ (keep_store hHeld hg _ _) (fun hHeld => ?_)
                  clear hK K
                  refine wpAnyH_done (by kernel_rfl) ?_ _
                  refine NoPanic.normal ?_
                  go_wp2_with fail
                  go_meet
                  case rel => exact ⟨w1.heap.size, rfl, Lay.set (joinF v o t 8) hth, (unhide H1).below hHeld (by omega), (unhide H2).below hHeld (by omega), h4.trans (hHeld.mono h4.size), Nat.le_trans h5 hHeld.size⟩
                exact AllReadyH.nil
              exact AllReadyH.nil
            exact AllReadyH.nil
          exact AllReadyH.nil
        exact AllReadyH.nil
      refine AllReadyH.cons (o := _) rfl (fun K hK => ?_) ?_
      · go_simp
        have hg := hHeld.size
        refine hK.out _ _ (keep_alloc hHeld _) (fun hHeld => ?_)
        clear hK K
        have hth : (wc.alloc (.cells #[.pointer none, .pointer none, .pointer none, .pointer none, .pointer none, .pointer none, .pointer none, .pointer none, .pointer none, .pointer none, .pointer none] 23)).drew.there wc.heap.size 0 11 := there_new wc 23
        try simp only [Act.put, List.getElem_toArray, List.getElem_cons_zero, List.getElem_cons_succ, List.setIfInBounds_toArray, List.set_cons_zero, List.set_cons_succ]
        refine wpAnyH_ready (rs := [1]) (by kernel_rfl) (by simp) ?_
        refine AllReadyH.cons (o := _) rfl (fun K hK => ?_) ?_
        · go_simp
          refine (checksOf_any _ _).mono ?_
          rintro e w11 ⟨rfl, hb11⟩
          go_wp2_with fail
          refine hK.out _ _ (keep_call hHeld hb11) (fun hHeld => ?_)
          clear hK K
          have hth := there_below hth hb11
          try simp only [Act.put, List.getElem_toArray, List.getElem_cons_zero, List.getElem_cons_succ, List.setIfInBounds_toArray, List.set_cons_zero, List.set_cons_succ]
          refine wpAnyH_ready (rs := [3]) (by kernel_rfl) (by simp) ?_
          refine AllReadyH.cons (o := _) rfl (fun K hK => ?_) ?_
          · go_simp
            refine (checksOf_any _ _).mono ?_
            rintro e w12 ⟨rfl, hb12⟩
            go_wp2_with fail
            refine hK.out _ _ (keep_call hHeld hb12) (fun hHeld => ?_)
            clear hK K
            have hth := there_below hth hb12
            try simp only [Act.put, List.getElem_toArray, List.getElem_cons_zero, List.getElem_cons_succ, List.setIfInBounds_toArray, List.set_cons_zero, List.set_cons_succ]
            refine wpAnyH_ready (rs := [4]) (by kernel_rfl) (by simp) ?_
            refine AllReadyH.cons (o := _) rfl (fun K hK => ?_) ?_
            · go_simp
              refine (zzjoin_at w v o t (unhide GO) (unhide GT) _ (by exact h4.trans (hHeld.mono h4.size))).mono ?_
              rintro e w13 ⟨rfl, hb13⟩
              go_wp2_with fail
              refine hK.out _ _ (keep_call hHeld hb13) (fun hHeld => ?_)
              clear hK K
              have hth := there_below hth hb13
              try simp only [Act.put, List.getElem_toArray, List.getElem_cons_zero, List.getElem_cons_succ, List.setIfInBounds_toArray, List.set_cons_zero, List.set_cons_succ]
              refine wpAnyH_ready (rs := [5]) (by kernel_rfl) (by simp) ?_
              refine AllReadyH.cons (o := _) rfl (fun K hK => ?_) ?_
              · go_simp
                refine (fieldsOf_any _ _).mono ?_
                rintro e w14 ⟨rfl, hb14⟩
                go_wp2_with fail
                refine hK.out _ _ (keep_call hHeld hb14) (fun hHeld => ?_)
                clear hK K
                have hth := there_below hth hb14
                try simp only [Act.put, List.getElem_toArray, List.getElem_cons_zero, List.getElem_cons_succ, List.setIfInBounds_toArray, List.set_cons_zero, List.set_cons_succ]
                refine wpAnyH_ready (rs := [7]) (by kernel_rfl) (by simp) ?_
                refine AllReadyH.cons (o := _) rfl (fun K hK => ?_) ?_
                · rw [if_pos (by rfl)]
                  refine wp_store_mid 23 _ _ rfl wc.heap.size 0 #[.pointer (joinF v o t 8 0), .pointer (joinF v o t 8 1), .pointer (joinF v o t 8 2), .pointer (joinF v o t 8 3), .pointer (joinF v o t 8 4), .pointer (joinF v o t 8 5), .pointer (joinF v o t 8 6), .pointer (joinF v o t 8 7), .pointer (joinF v o t 8 8), .pointer (joinF v o t 8 9), .pointer (joinF v o t 8 10)] rfl rfl hth size23 (one11 _) ?_
                  try simp only [Act.put, List.getElem_toArray, List.getElem_cons_zero, List.getElem_cons_succ, List.setIfInBounds_toArray, List.set_cons_zero, List.set_cons_succ]
                  refine hK.out _ _ (keep_store hHeld hg _ _) (fun hHeld => ?_)
                  clear hK K
                  refine wpAnyH_done (by kernel_rfl) ?_ _
                  refine NoPanic.normal ?_
                  go_wp2_with fail
                  go_meet
                  case rel => exact ⟨wc.heap.size, rfl, Lay.set (joinF v o t 8) hth, (unhide H1).below hHeld (by omega), (unhide H2).below hHeld (by omega), h4.trans (hHeld.mono h4.size), Nat.le_trans h5 hHeld.size⟩
                exact AllReadyH.nil
              exact AllReadyH.nil
            exact AllReadyH.nil
          exact AllReadyH.nil
        exact AllReadyH.nil
      exact AllReadyH.nil

    case rest =>
      clear h4 h5 H1 H2
      obtain ⟨g, rfl, h3, h1, h2, h4, h5⟩ := hcut
      have H1 := hide h1
      have H2 := hide h2
      have H3 := hide h3
      have H4 := hide h4
      have G1 := hide ((unhide GO).below h4)
      have G2 := hide ((unhide GT).below h4)
      clear h1 h2 h3 h4 h5
      go_wp2_with fail
      go_loop [6] (fun i => ∃ k : Nat, k ≤ 8 ∧ i = .int .i64 k) (fun i => 8 - (intOf i).toNat)
      case atStart => exact ⟨0, Nat.zero_le _, rfl⟩
      case round =>
        obtain ⟨k, hk, rfl⟩ := hrel
        by_cases hlt : k < 8
        · have hlt' : (k : Int) < 8 := by omega
          have hlt'' : (k : Int) < 11 := by omega
          have c1 := unhide H1 k (by omega)
          have c2 := unhide H2 k (by omega)
          have c3 := unhide H3 k (by omega)
          have e3 : joinF v o t 8 k = jn v (o k) (t k) := if_pos hlt
          rw [e3] at c3
          have k1 : ∀ a, o k = some a → wc.cell? a = some (.bool (v a)) := fun a ha => (unhide G1 k (by omega) a ha).2
          have k2 : ∀ a, t k = some a → wc.cell? a = some (.bool (v a)) := fun a ha => (unhide G2 k (by omega) a ha).2
          clear e3
          generalize o k = x at c1 c3 k1
          generalize t k = y at c2 c3 k2
          have K1 := hide k1
          have K2 := hide k2
          clear k1 k2
          have hc := cls_jn v x y
          by_cases hx : cls v x = jc (cls v x) (cls v y)
          · have hj := jn_keeps v x y hx
            rw [hj] at c3 hc
            have t1 : (cls v x != jc (cls v x) (cls v y)) = false := by rw [← hc]; simp
            have t2 : (cls v x == jc (cls v x) (cls v y)) = true := by rw [← hc]; simp
            have np := neq_ptr x
            clear hc hx hj
            go_wp2_with (first | (go_at_call_of 11 (Value.pointer x); refine (cls_any v x _ (unhide K1)).mono ?_; rintro e w' ⟨rfl, rfl⟩) | (go_at_call_of 11 (Value.pointer y); refine (cls_any v y _ (unhide K2)).mono ?_; rintro e w' ⟨rfl, rfl⟩) | (go_at_call 12; refine (jc_any _ _ _).mono ?_; rintro e w' ⟨rfl, rfl⟩))
            go_round
            case rel => exact ⟨k + 1, by omega, by go_num⟩
            case measure => simp [intOf]; omega
          · have hj := jn_takes v x y hx
            rw [hj] at c3 hc
            have t1 : (cls v y != jc (cls v x) (cls v y)) = false := by rw [← hc]; simp
            have t2 : (cls v x == jc (cls v x) (cls v y)) = false := by simpa using hx
            have np := neq_ptr y
            clear hc hx hj
            go_wp2_with (first | (go_at_call_of 11 (Value.pointer x); refine (cls_any v x _ (unhide K1)).mono ?_; rintro e w' ⟨rfl, rfl⟩) | (go_at_call_of 11 (Value.pointer y); refine (cls_any v y _ (unhide K2)).mono ?_; rintro e w' ⟨rfl, rfl⟩) | (go_at_call 12; refine (jc_any _ _ _).mono ?_; rintro e w' ⟨rfl, rfl⟩))
            go_round
            case rel => exact ⟨k + 1, by omega, by go_num⟩
            case measure => simp [intOf]; omega
        · have : k = 8 := by omega
          subst this
          go_wp2
          go_loopw [11] (fun i wr => ∃ k : Nat, 8 ≤ k ∧ k ≤ 11 ∧ i = .int .i64 k ∧ Hid (Lay wr g (joinF v o t 8) ∧ Lay wr w.heap.size o ∧ Below w.heap.size w wr)) (fun i _ => 11 - (intOf i).toNat)
          case atStart => exact ⟨8, by omega, by omega, rfl, unhide H3, unhide H1, unhide H4⟩
          case round =>
            obtain ⟨k, hk8, hk, rfl, HJ⟩ := hrel
            by_cases hlt : k < 11
            · have hlt' : (k : Int) < 11 := by omega
              have c1 := HJ.out.2.1 k (by omega)
              have c3 := HJ.out.1 k (by omega)
              have e3 : joinF v o t 8 k = o k := if_neg (by omega)
              rw [e3] at c3
              clear e3
              generalize o k = x at c1 c3
              have np := neq_ptr x
              go_wp2_with fail
              go_quiet (fail)
              go_wp2
              go_roundw
              case rel => exact ⟨k + 1, by omega, by omega, by go_num, HJ.out.1, HJ.out.2.1, below_drewN HJ.out.2.2 _⟩
              case measure => simp [intOf]; omega
            · go_wp2
              go_ret
              exact ⟨rfl, HJ.out.2.2⟩
end Go.Proofs.Qxb6601817a.Join
