/- Qxb6601817a: the walk of FnJoinFailsIffEitherFailed. -/
import Derived.Test.Qxb6601817aJoinRegions
namespace Go.Proofs.Qxb6601817a.Join
open Go.ChangeShapes Go.WideShapes Go.ChangeAt Go.RowKit
set_option linter.unusedSimpArgs false
set_option linter.unusedVariables false

/-- The first eight alone. -/
def cutF (t : Nat → Option Addr) : Nat → Option Addr := fun j => if j < 8 then t j else Option.none
theorem lay_lt {w : World} {g : Nat} {f : Nat → Option Addr} (h : Lay w g f) : g < w.heap.size := World.block_lt_of_cell? w _ (h 0 (by omega))
theorem good_cut {w : World} {B : Nat} {v : Addr → Bool} {t : Nat → Option Addr} (h : Good w B v t) : Good w B v (cutF t) := fun j hj a ha => by
  unfold cutF at ha
  split at ha
  · exact h j hj a ha
  · cases ha
theorem bad_join (v : Addr → Bool) (o t : Option Addr) : badAt v (jn v o t) = (badAt v o || badAt v t) := by
  unfold jn badAt
  cases t with
  | none => cases o <;> simp
  | some ta => cases o with
    | none => simp
    | some oa => cases h1 : v oa <;> cases h2 : v ta <;> simp [h1, h2]
/-- THE PLAIN LAW: the join fails just where ours failed or the first eight of theirs do. -/
theorem fails_join (v : Addr → Bool) (o t : Nat → Option Addr) : fails v (joinF v o t 8) 11 = (fails v o 11 || fails v (cutF t) 11) := by
  rw [Bool.eq_iff_iff, Bool.or_eq_true]
  unfold fails
  simp only [List.any_eq_true, List.mem_range]
  constructor
  · rintro ⟨j, hj, h⟩
    unfold joinF at h
    by_cases c : j < 8
    · rw [if_pos c, bad_join, Bool.or_eq_true] at h
      rcases h with h | h
      · exact Or.inl ⟨j, hj, h⟩
      · exact Or.inr ⟨j, hj, by unfold cutF; rw [if_pos c]; exact h⟩
    · rw [if_neg c] at h
      exact Or.inl ⟨j, hj, h⟩
  · rintro (⟨j, hj, h⟩ | ⟨j, hj, h⟩)
    · refine ⟨j, hj, ?_⟩
      unfold joinF
      by_cases c : j < 8
      · rw [if_pos c, bad_join, h]; rfl
      · rw [if_neg c]; exact h
    · unfold cutF at h
      by_cases c : j < 8
      · rw [if_pos c] at h
        refine ⟨j, hj, ?_⟩
        unfold joinF
        rw [if_pos c, bad_join, h, Bool.or_true]
      · rw [if_neg c] at h
        cases h

theorem failed_is (w : World) (v : Addr → Bool) (f : Nat → Option Addr) (x : Bool) (hx : fails v f 11 = x) (hg : Good w w.heap.size v f) (W : World) (h : Below w.heap.size w W) :
    Calls Try.prog 13 #[.agg #[.pointer (f 0), .pointer (f 1), .pointer (f 2), .pointer (f 3), .pointer (f 4), .pointer (f 5), .pointer (f 6), .pointer (f 7), .pointer (f 8), .pointer (f 9), .pointer (f 10)]] W fun e w' => e = .returned (.bool x) ∧ Below W.heap.size W w' := by
  rw [← hx]
  exact failed_at w v f hg W h

theorem start4 (o t : Nat → Option Addr) (w : World) (W : World) (hW : W = (((w.alloc (.cells #[.pointer (o 0), .pointer (o 1), .pointer (o 2), .pointer (o 3), .pointer (o 4), .pointer (o 5), .pointer (o 6), .pointer (o 7), .pointer (o 8), .pointer (o 9), .pointer (o 10)] 23)).alloc (.cells #[.pointer (t 0), .pointer (t 1), .pointer (t 2), .pointer (t 3), .pointer (t 4), .pointer (t 5), .pointer (t 6), .pointer (t 7), .pointer (t 8), .pointer (t 9), .pointer (t 10)] 23)).alloc (.cells #[.pointer (t 0), .pointer (t 1), .pointer (t 2), .pointer (t 3), .pointer (t 4), .pointer (t 5), .pointer (t 6), .pointer (t 7), .pointer none, .pointer none, .pointer none] 23))) :
    Lay W w.heap.size o ∧ Lay W (w.heap.size + 1) t ∧ Lay W (w.heap.size + 1 + 1) (cutF t) ∧ Below w.heap.size w W ∧ w.heap.size + 3 ≤ W.heap.size := by
  subst hW
  have s1 : ∀ o1 : Obj, (w.alloc o1).heap.size = w.heap.size + 1 := fun o1 => by simp
  have s2 : ∀ o1 o2 : Obj, ((w.alloc o1).alloc o2).heap.size = w.heap.size + 1 + 1 := fun o1 o2 => by simp
  have s3 : ∀ o1 o2 o3 : Obj, (((w.alloc o1).alloc o2).alloc o3).heap.size = w.heap.size + 1 + 1 + 1 := fun o1 o2 o3 => by simp
  refine ⟨?_, ?_, ?_, ?_, ?_⟩
  · exact ((Lay.new w o 23).alloc (by rw [s1]; omega) _).alloc (by rw [s2]; omega) _
  · have h := (Lay.new (w.alloc (.cells #[.pointer (o 0), .pointer (o 1), .pointer (o 2), .pointer (o 3), .pointer (o 4), .pointer (o 5), .pointer (o 6), .pointer (o 7), .pointer (o 8), .pointer (o 9), .pointer (o 10)] 23)) t 23).alloc (by rw [s1, s2]; omega) (.cells #[.pointer (t 0), .pointer (t 1), .pointer (t 2), .pointer (t 3), .pointer (t 4), .pointer (t 5), .pointer (t 6), .pointer (t 7), .pointer none, .pointer none, .pointer none] 23)
    rw [s1] at h
    exact h
  · have h := Lay.new ((w.alloc (.cells #[.pointer (o 0), .pointer (o 1), .pointer (o 2), .pointer (o 3), .pointer (o 4), .pointer (o 5), .pointer (o 6), .pointer (o 7), .pointer (o 8), .pointer (o 9), .pointer (o 10)] 23)).alloc (.cells #[.pointer (t 0), .pointer (t 1), .pointer (t 2), .pointer (t 3), .pointer (t 4), .pointer (t 5), .pointer (t 6), .pointer (t 7), .pointer (t 8), .pointer (t 9), .pointer (t 10)] 23)) (cutF t) 23
    rw [s2] at h
    exact h
  · exact (((Below.refl _ _).alloc (Nat.le_refl _) _).alloc (by rw [s1]; omega) _).alloc (by rw [s2]; omega) _
  · rw [s3]; omega

set_option maxRecDepth 100000 in
set_option maxHeartbeats 4000000 in
theorem law4 (v : Addr → Bool) (o t : Nat → Option Addr) (w : World) (hgo : Good w w.heap.size v o) (hgt : Good w w.heap.size v t) :
    Calls Try.prog 4 #[.agg #[.pointer (o 0), .pointer (o 1), .pointer (o 2), .pointer (o 3), .pointer (o 4), .pointer (o 5), .pointer (o 6), .pointer (o 7), .pointer (o 8), .pointer (o 9), .pointer (o 10)], .agg #[.pointer (t 0), .pointer (t 1), .pointer (t 2), .pointer (t 3), .pointer (t 4), .pointer (t 5), .pointer (t 6), .pointer (t 7), .pointer (t 8), .pointer (t 9), .pointer (t 10)]] w fun e w' => e = .returned (.bool true) ∧ Below w.heap.size w w' := by
  have GJ := hide (hgo.join hgt 8)
  have GC := hide (good_cut hgt)
  have GO := hide hgo
  have GT := hide hgt
  clear hgo hgt
  go_enter Try.func4, Try.ntmps4
  go_upto_region 4 with fail
  go_cut [] (fun w' => Lay w' w.heap.size o ∧ Lay w' (w.heap.size + 1) t ∧ Lay w' (w.heap.size + 1 + 1) (cutF t) ∧ Below w.heap.size w w' ∧ w.heap.size + 3 ≤ w'.heap.size)
  case first =>
    go_wp2_with fail
    go_meet
    case rel => exact start4 o t w _ rfl
  case rest =>
    obtain ⟨h1, h2, h3, h4, h5⟩ := hcut
    have H1 := hide h1
    have H2 := hide h2
    have H3 := hide h3
    clear h1 h2 h3
    go_wp2_with fail
    go_cut [6] (fun s6 w' => ∃ g, s6 = .pointer (some ⟨g, 0, none⟩) ∧ Lay w' g (joinF v o t 8) ∧ Lay w' w.heap.size o ∧ Lay w' (w.heap.size + 1 + 1) (cutF t) ∧ Below w.heap.size w w' ∧ w.heap.size + 3 ≤ w'.heap.size ∧ g < w'.heap.size)
    case first =>
      refine wp_region_noPanic ?_
      refine wp_region_held_drew (S := fun w' => Below wc.heap.size wc w') (by kernel_rfl) (Below.refl _ _).drew (fun hHeld => ?_)
      refine wpAnyH_take (i := 0) (oi := _) (v := _) rfl (by kernel_rfl) (by kernel_rfl) (by kernel_rfl) (fun _ _ _ h => h) (yieldsIf_load_mid (by rfl) 23 _ rfl _ _ rfl [.pointer (o 0), .pointer (o 1), .pointer (o 2), .pointer (o 3), .pointer (o 4), .pointer (o 5), .pointer (o 6), .pointer (o 7), .pointer (o 8), .pointer (o 9), .pointer (o 10)] _ (fun _ h => row_in (unhide H1) (by omega) h) Try.underlying23 rfl size23) hHeld ?_
      try simp only [Act.put, List.getElem_toArray, List.getElem_cons_zero, List.getElem_cons_succ, List.setIfInBounds_toArray, List.set_cons_zero, List.set_cons_succ]
      refine wpAnyH_take (i := 2) (oi := _) (v := _) rfl (by kernel_rfl) (by kernel_rfl) (by kernel_rfl) (fun _ _ _ h => h) (yieldsIf_load_mid (by rfl) 23 _ rfl _ _ rfl [.pointer (t 0), .pointer (t 1), .pointer (t 2), .pointer (t 3), .pointer (t 4), .pointer (t 5), .pointer (t 6), .pointer (t 7), .pointer (t 8), .pointer (t 9), .pointer (t 10)] _ (fun _ h => row_in (unhide H2) (by omega) h) Try.underlying23 rfl size23) hHeld ?_
      try simp only [Act.put, List.getElem_toArray, List.getElem_cons_zero, List.getElem_cons_succ, List.setIfInBounds_toArray, List.set_cons_zero, List.set_cons_succ]
      refine wpAnyH_ready (rs := [1, 5]) (by kernel_rfl) (by simp) ?_
      refine AllReadyH.cons (o := _) rfl (fun K hK => ?_) ?_
      · go_simp
        refine (checksOf_any _ _).mono ?_
        rintro e w1 ⟨rfl, hb1⟩
        go_wp2_with fail
        refine hK.out _ _ (keep_call hHeld hb1) (fun hHeld => ?_)
        clear hK K
        try simp only [Act.put, List.getElem_toArray, List.getElem_cons_zero, List.getElem_cons_succ, List.setIfInBounds_toArray, List.set_cons_zero, List.set_cons_succ]
        refine wpAnyH_ready (rs := [3, 5]) (by kernel_rfl) (by simp) ?_
        refine AllReadyH.cons (o := _) rfl (fun K hK => ?_) ?_
        · go_simp
          refine (checksOf_any _ _).mono ?_
          rintro e w2 ⟨rfl, hb2⟩
          go_wp2_with fail
          refine hK.out _ _ (keep_call hHeld hb2) (fun hHeld => ?_)
          clear hK K
          try simp only [Act.put, List.getElem_toArray, List.getElem_cons_zero, List.getElem_cons_succ, List.setIfInBounds_toArray, List.set_cons_zero, List.set_cons_succ]
          refine wpAnyH_ready (rs := [4, 5]) (by kernel_rfl) (by simp) ?_
          refine AllReadyH.cons (o := _) rfl (fun K hK => ?_) ?_
          · go_simp
            refine (zzjoin_at w v o t (unhide GO) (unhide GT) _ (by exact h4.trans (hHeld.mono h4.size))).mono ?_
            rintro e w3 ⟨rfl, hb3⟩
            go_wp2_with fail
            refine hK.out _ _ (keep_call hHeld hb3) (fun hHeld => ?_)
            clear hK K
            try simp only [Act.put, List.getElem_toArray, List.getElem_cons_zero, List.getElem_cons_succ, List.setIfInBounds_toArray, List.set_cons_zero, List.set_cons_succ]
            refine wpAnyH_ready (rs := [5]) (by kernel_rfl) (by simp) ?_
            refine AllReadyH.cons (o := _) rfl (fun K hK => ?_) ?_
            · go_simp
              have hg := hHeld.size
              refine hK.out _ _ (keep_alloc hHeld _) (fun hHeld => ?_)
              clear hK K
              have hth := there_new w3 26
              try simp only [Act.put, List.getElem_toArray, List.getElem_cons_zero, List.getElem_cons_succ, List.setIfInBounds_toArray, List.set_cons_zero, List.set_cons_succ]
              refine wpAnyH_ready (rs := [6]) (by kernel_rfl) (by simp) ?_
              refine AllReadyH.cons (o := _) rfl (fun K hK => ?_) ?_
              · rw [if_pos (by rfl)]
                refine wp_store_mid 26 _ _ rfl w3.heap.size 0 #[.pointer (joinF v o t 8 0), .pointer (joinF v o t 8 1), .pointer (joinF v o t 8 2), .pointer (joinF v o t 8 3), .pointer (joinF v o t 8 4), .pointer (joinF v o t 8 5), .pointer (joinF v o t 8 6), .pointer (joinF v o t 8 7), .pointer (joinF v o t 8 8), .pointer (joinF v o t 8 9), .pointer (joinF v o t 8 10)] rfl rfl hth size26 (one11 _) ?_
                try simp only [Act.put, List.getElem_toArray, List.getElem_cons_zero, List.getElem_cons_succ, List.setIfInBounds_toArray, List.set_cons_zero, List.set_cons_succ]
                refine hK.out _ _ (keep_store hHeld hg _ _) (fun hHeld => ?_)
                clear hK K
                refine wpAnyH_done (by kernel_rfl) ?_ _
                refine NoPanic.normal ?_
                go_wp2_with fail
                go_meet
                case rel => exact ⟨w3.heap.size, rfl, Lay.set (joinF v o t 8) hth, (unhide H1).below hHeld (by omega), (unhide H3).below hHeld (by omega), h4.trans (hHeld.mono h4.size), Nat.le_trans h5 hHeld.size, lay_lt (Lay.set (joinF v o t 8) hth)⟩
              exact AllReadyH.nil
            exact AllReadyH.nil
          refine AllReadyH.cons (o := _) rfl (fun K hK => ?_) ?_
          · go_simp
            have hg := hHeld.size
            refine hK.out _ _ (keep_alloc hHeld _) (fun hHeld => ?_)
            clear hK K
            have hth := there_new w2 26
            try simp only [Act.put, List.getElem_toArray, List.getElem_cons_zero, List.getElem_cons_succ, List.setIfInBounds_toArray, List.set_cons_zero, List.set_cons_succ]
            refine wpAnyH_ready (rs := [4]) (by kernel_rfl) (by simp) ?_
            refine AllReadyH.cons (o := _) rfl (fun K hK => ?_) ?_
            · go_simp
              refine (zzjoin_at w v o t (unhide GO) (unhide GT) _ (by exact h4.trans (hHeld.mono h4.size))).mono ?_
              rintro e w4 ⟨rfl, hb4⟩
              go_wp2_with fail
              refine hK.out _ _ (keep_call hHeld hb4) (fun hHeld => ?_)
              clear hK K
              have hth := there_below hth hb4
              try simp only [Act.put, List.getElem_toArray, List.getElem_cons_zero, List.getElem_cons_succ, List.setIfInBounds_toArray, List.set_cons_zero, List.set_cons_succ]
              refine wpAnyH_ready (rs := [6]) (by kernel_rfl) (by simp) ?_
              refine AllReadyH.cons (o := _) rfl (fun K hK => ?_) ?_
              · rw [if_pos (by rfl)]
                refine wp_store_mid 26 _ _ rfl w2.heap.size 0 #[.pointer (joinF v o t 8 0), .pointer (joinF v o t 8 1), .pointer (joinF v o t 8 2), .pointer (joinF v o t 8 3), .pointer (joinF v o t 8 4), .pointer (joinF v o t 8 5), .pointer (joinF v o t 8 6), .pointer (joinF v o t 8 7), .pointer (joinF v o t 8 8), .pointer (joinF v o t 8 9), .pointer (joinF v o t 8 10)] rfl rfl hth size26 (one11 _) ?_
                try simp only [Act.put, List.getElem_toArray, List.getElem_cons_zero, List.getElem_cons_succ, List.setIfInBounds_toArray, List.set_cons_zero, List.set_cons_succ]
                refine hK.out _ _ (keep_store hHeld hg _ _) (fun hHeld => ?_)
                clear hK K
                refine wpAnyH_done (by kernel_rfl) ?_ _
                refine NoPanic.normal ?_
                go_wp2_with fail
                go_meet
                case rel => exact ⟨w2.heap.size, rfl, Lay.set (joinF v o t 8) hth, (unhide H1).below hHeld (by omega), (unhide H3).below hHeld (by omega), h4.trans (hHeld.mono h4.size), Nat.le_trans h5 hHeld.size, lay_lt (Lay.set (joinF v o t 8) hth)⟩
              exact AllReadyH.nil
            exact AllReadyH.nil
          exact AllReadyH.nil
        refine AllReadyH.cons (o := _) rfl (fun K hK => ?_) ?_
        · go_simp
          have hg := hHeld.size
          refine hK.out _ _ (keep_alloc hHeld _) (fun hHeld => ?_)
          clear hK K
          have hth := there_new w1 26
          try simp only [Act.put, List.getElem_toArray, List.getElem_cons_zero, List.getElem_cons_succ, List.setIfInBounds_toArray, List.set_cons_zero, List.set_cons_succ]
          refine wpAnyH_ready (rs := [3]) (by kernel_rfl) (by simp) ?_
          refine AllReadyH.cons (o := _) rfl (fun K hK => ?_) ?_
          · go_simp
            refine (checksOf_any _ _).mono ?_
            rintro e w5 ⟨rfl, hb5⟩
            go_wp2_with fail
            refine hK.out _ _ (keep_call hHeld hb5) (fun hHeld => ?_)
            clear hK K
            have hth := there_below hth hb5
            try simp only [Act.put, List.getElem_toArray, List.getElem_cons_zero, List.getElem_cons_succ, List.setIfInBounds_toArray, List.set_cons_zero, List.set_cons_succ]
            refine wpAnyH_ready (rs := [4]) (by kernel_rfl) (by simp) ?_
            refine AllReadyH.cons (o := _) rfl (fun K hK => ?_) ?_
            · go_simp
              refine (zzjoin_at w v o t (unhide GO) (unhide GT) _ (by exact h4.trans (hHeld.mono h4.size))).mono ?_
              rintro e w6 ⟨rfl, hb6⟩
              go_wp2_with fail
              refine hK.out _ _ (keep_call hHeld hb6) (fun hHeld => ?_)
              clear hK K
              have hth := there_below hth hb6
              try simp only [Act.put, List.getElem_toArray, List.getElem_cons_zero, List.getElem_cons_succ, List.setIfInBounds_toArray, List.set_cons_zero, List.set_cons_succ]
              refine wpAnyH_ready (rs := [6]) (by kernel_rfl) (by simp) ?_
              refine AllReadyH.cons (o := _) rfl (fun K hK => ?_) ?_
              · rw [if_pos (by rfl)]
                refine wp_store_mid 26 _ _ rfl w1.heap.size 0 #[.pointer (joinF v o t 8 0), .pointer (joinF v o t 8 1), .pointer (joinF v o t 8 2), .pointer (joinF v o t 8 3), .pointer (joinF v o t 8 4), .pointer (joinF v o t 8 5), .pointer (joinF v o t 8 6), .pointer (joinF v o t 8 7), .pointer (joinF v o t 8 8), .pointer (joinF v o t 8 9), .pointer (joinF v o t 8 10)] rfl rfl hth size26 (one11 _) ?_
                try simp only [Act.put, List.getElem_toArray, List.getElem_cons_zero, List.getElem_cons_succ, List.setIfInBounds_toArray, List.set_cons_zero, List.set_cons_succ]
                refine hK.out _ _ (keep_store hHeld hg _ _) (fun hHeld => ?_)
                clear hK K
                refine wpAnyH_done (by kernel_rfl) ?_ _
                refine NoPanic.normal ?_
                go_wp2_with fail
                go_meet
                case rel => exact ⟨w1.heap.size, rfl, Lay.set (joinF v o t 8) hth, (unhide H1).below hHeld (by omega), (unhide H3).below hHeld (by omega), h4.trans (hHeld.mono h4.size), Nat.le_trans h5 hHeld.size, lay_lt (Lay.set (joinF v o t 8) hth)⟩
              exact AllReadyH.nil
            exact AllReadyH.nil
          exact AllReadyH.nil
        exact AllReadyH.nil
      refine AllReadyH.cons (o := _) rfl (fun K hK => ?_) ?_
      · go_simp
        have hg := hHeld.size
        refine hK.out _ _ (keep_alloc hHeld _) (fun hHeld => ?_)
        clear hK K
        have hth : (wc.alloc (.cells #[.pointer none, .pointer none, .pointer none, .pointer none, .pointer none, .pointer none, .pointer none, .pointer none, .pointer none, .pointer none, .pointer none] 26)).drew.there wc.heap.size 0 11 := there_new wc 26
        try simp only [Act.put, List.getElem_toArray, List.getElem_cons_zero, List.getElem_cons_succ, List.setIfInBounds_toArray, List.set_cons_zero, List.set_cons_succ]
        refine wpAnyH_ready (rs := [1]) (by kernel_rfl) (by simp) ?_
        refine AllReadyH.cons (o := _) rfl (fun K hK => ?_) ?_
        · go_simp
          refine (checksOf_any _ _).mono ?_
          rintro e w7 ⟨rfl, hb7⟩
          go_wp2_with fail
          refine hK.out _ _ (keep_call hHeld hb7) (fun hHeld => ?_)
          clear hK K
          have hth := there_below hth hb7
          try simp only [Act.put, List.getElem_toArray, List.getElem_cons_zero, List.getElem_cons_succ, List.setIfInBounds_toArray, List.set_cons_zero, List.set_cons_succ]
          refine wpAnyH_ready (rs := [3]) (by kernel_rfl) (by simp) ?_
          refine AllReadyH.cons (o := _) rfl (fun K hK => ?_) ?_
          · go_simp
            refine (checksOf_any _ _).mono ?_
            rintro e w8 ⟨rfl, hb8⟩
            go_wp2_with fail
            refine hK.out _ _ (keep_call hHeld hb8) (fun hHeld => ?_)
            clear hK K
            have hth := there_below hth hb8
            try simp only [Act.put, List.getElem_toArray, List.getElem_cons_zero, List.getElem_cons_succ, List.setIfInBounds_toArray, List.set_cons_zero, List.set_cons_succ]
            refine wpAnyH_ready (rs := [4]) (by kernel_rfl) (by simp) ?_
            refine AllReadyH.cons (o := _) rfl (fun K hK => ?_) ?_
            · go_simp
              refine (zzjoin_at w v o t (unhide GO) (unhide GT) _ (by exact h4.trans (hHeld.mono h4.size))).mono ?_
              rintro e w9 ⟨rfl, hb9⟩
              go_wp2_with fail
              refine hK.out _ _ (keep_call hHeld hb9) (fun hHeld => ?_)
              clear hK K
              have hth := there_below hth hb9
              try simp only [Act.put, List.getElem_toArray, List.getElem_cons_zero, List.getElem_cons_succ, List.setIfInBounds_toArray, List.set_cons_zero, List.set_cons_succ]
              refine wpAnyH_ready (rs := [6]) (by kernel_rfl) (by simp) ?_
              refine AllReadyH.cons (o := _) rfl (fun K hK => ?_) ?_
              · rw [if_pos (by rfl)]
                refine wp_store_mid 26 _ _ rfl wc.heap.size 0 #[.pointer (joinF v o t 8 0), .pointer (joinF v o t 8 1), .pointer (joinF v o t 8 2), .pointer (joinF v o t 8 3), .pointer (joinF v o t 8 4), .pointer (joinF v o t 8 5), .pointer (joinF v o t 8 6), .pointer (joinF v o t 8 7), .pointer (joinF v o t 8 8), .pointer (joinF v o t 8 9), .pointer (joinF v o t 8 10)] rfl rfl hth size26 (one11 _) ?_
                try simp only [Act.put, List.getElem_toArray, List.getElem_cons_zero, List.getElem_cons_succ, List.setIfInBounds_toArray, List.set_cons_zero, List.set_cons_succ]
                refine hK.out _ _ (keep_store hHeld hg _ _) (fun hHeld => ?_)
                clear hK K
                refine wpAnyH_done (by kernel_rfl) ?_ _
                refine NoPanic.normal ?_
                go_wp2_with fail
                go_meet
                case rel => exact ⟨wc.heap.size, rfl, Lay.set (joinF v o t 8) hth, (unhide H1).below hHeld (by omega), (unhide H3).below hHeld (by omega), h4.trans (hHeld.mono h4.size), Nat.le_trans h5 hHeld.size, lay_lt (Lay.set (joinF v o t 8) hth)⟩
              exact AllReadyH.nil
            exact AllReadyH.nil
          exact AllReadyH.nil
        exact AllReadyH.nil
      exact AllReadyH.nil

    case rest =>
      clear h4 h5 H1 H2 H3
      obtain ⟨g, rfl, hgl, h1, h3, h4, h5, hg⟩ := hcut
      have HG := hide hgl
      have H1 := hide h1
      have H3 := hide h3
      clear hgl h1 h3
      have PL := hide (fails_join v o t)
      obtain ⟨z, hz⟩ : ∃ z, fails v (cutF t) 11 = z := ⟨_, rfl⟩
      have PC := hide hz
      clear hz
      by_cases c : fails v o 11 = true
      · have PO := hide c
        have PJ : Hid (fails v (joinF v o t 8) 11 = true) := by show fails v (joinF v o t 8) 11 = true; rw [unhide PL, c]; rfl
        clear c PL
        go_wp2_with fail
        refine wp_region_noPanic ?_
        refine wp_region_held_drew (S := fun w' => Below wc.heap.size wc w') (by kernel_rfl) (Below.refl _ _).drew (fun hHeld => ?_)
        refine wpAnyH_take (i := 0) (oi := _) (v := _) rfl (by kernel_rfl) (by kernel_rfl) (by kernel_rfl) (fun _ _ _ h => h) (yieldsIf_load_mid (by rfl) 26 _ rfl _ _ rfl [.pointer (joinF v o t 8 0), .pointer (joinF v o t 8 1), .pointer (joinF v o t 8 2), .pointer (joinF v o t 8 3), .pointer (joinF v o t 8 4), .pointer (joinF v o t 8 5), .pointer (joinF v o t 8 6), .pointer (joinF v o t 8 7), .pointer (joinF v o t 8 8), .pointer (joinF v o t 8 9), .pointer (joinF v o t 8 10)] _ (fun _ h => row_in (unhide HG) hg h) Try.underlying26 rfl size26) hHeld ?_
        try simp only [Act.put, List.getElem_toArray, List.getElem_cons_zero, List.getElem_cons_succ, List.setIfInBounds_toArray, List.set_cons_zero, List.set_cons_succ]
        refine wpAnyH_take (i := 2) (oi := _) (v := _) rfl (by kernel_rfl) (by kernel_rfl) (by kernel_rfl) (fun _ _ _ h => h) (yieldsIf_load_mid (by rfl) 23 _ rfl _ _ rfl [.pointer (o 0), .pointer (o 1), .pointer (o 2), .pointer (o 3), .pointer (o 4), .pointer (o 5), .pointer (o 6), .pointer (o 7), .pointer (o 8), .pointer (o 9), .pointer (o 10)] _ (fun _ h => row_in (unhide H1) (by omega) h) Try.underlying23 rfl size23) hHeld ?_
        try simp only [Act.put, List.getElem_toArray, List.getElem_cons_zero, List.getElem_cons_succ, List.setIfInBounds_toArray, List.set_cons_zero, List.set_cons_succ]
        refine wpAnyH_ready (rs := [1]) (by kernel_rfl) (by simp) ?_
        refine AllReadyH.cons (o := _) rfl (fun K hK => ?_) ?_
        · go_simp
          refine (failed_is w v (joinF v o t 8) true (unhide PJ) (unhide GJ) _ (by exact h4.trans (hHeld.mono h4.size))).mono ?_
          rintro e w1 ⟨rfl, hb1⟩
          go_wp2_with fail
          refine hK.out _ _ (keep_call hHeld hb1) (fun hHeld => ?_)
          clear hK K
          try simp only [Act.put, List.getElem_toArray, List.getElem_cons_zero, List.getElem_cons_succ, List.setIfInBounds_toArray, List.set_cons_zero, List.set_cons_succ]
          refine wpAnyH_ready (rs := [3]) (by kernel_rfl) (by simp) ?_
          refine AllReadyH.cons (o := _) rfl (fun K hK => ?_) ?_
          · go_simp
            refine (checksOf_any _ _).mono ?_
            rintro e w2 ⟨rfl, hb2⟩
            go_wp2_with fail
            refine hK.out _ _ (keep_call hHeld hb2) (fun hHeld => ?_)
            clear hK K
            try simp only [Act.put, List.getElem_toArray, List.getElem_cons_zero, List.getElem_cons_succ, List.setIfInBounds_toArray, List.set_cons_zero, List.set_cons_succ]
            refine wpAnyH_ready (rs := [4]) (by kernel_rfl) (by simp) ?_
            refine AllReadyH.cons (o := _) rfl (fun K hK => ?_) ?_
            · go_simp
              refine (failed_is w v o true (unhide PO) (unhide GO) _ (by exact h4.trans (hHeld.mono h4.size))).mono ?_
              rintro e w3 ⟨rfl, hb3⟩
              go_wp2_with fail
              refine hK.out _ _ (keep_call hHeld hb3) (fun hHeld => ?_)
              clear hK K
              try simp only [Act.put, List.getElem_toArray, List.getElem_cons_zero, List.getElem_cons_succ, List.setIfInBounds_toArray, List.set_cons_zero, List.set_cons_succ]
              refine wpAnyH_take (i := 5) (oi := _) (v := .bool true) rfl (by kernel_rfl) (by kernel_rfl) (by kernel_rfl) (fun _ _ _ h => h) (Or.inl ⟨by rfl, by intro w0 hSw; go_simp⟩) hHeld ?_
              try simp only [Act.put, List.getElem_toArray, List.getElem_cons_zero, List.getElem_cons_succ, List.setIfInBounds_toArray, List.set_cons_zero, List.set_cons_succ]
              refine wpAnyH_take (i := 6) (oi := _) (v := undef) rfl (by kernel_rfl) (by kernel_rfl) (by kernel_rfl) (fun _ _ _ h => h) (Or.inr ⟨by rfl, rfl⟩) hHeld ?_
              try simp only [Act.put, List.getElem_toArray, List.getElem_cons_zero, List.getElem_cons_succ, List.setIfInBounds_toArray, List.set_cons_zero, List.set_cons_succ]
              refine wpAnyH_take (i := 7) (oi := _) (v := undef) rfl (by kernel_rfl) (by kernel_rfl) (by kernel_rfl) (fun _ _ _ h => h) (Or.inr ⟨by rfl, rfl⟩) hHeld ?_
              try simp only [Act.put, List.getElem_toArray, List.getElem_cons_zero, List.getElem_cons_succ, List.setIfInBounds_toArray, List.set_cons_zero, List.set_cons_succ]
              refine wpAnyH_take (i := 8) (oi := _) (v := undef) rfl (by kernel_rfl) (by kernel_rfl) (by kernel_rfl) (fun _ _ _ h => h) (Or.inr ⟨by rfl, rfl⟩) hHeld ?_
              try simp only [Act.put, List.getElem_toArray, List.getElem_cons_zero, List.getElem_cons_succ, List.setIfInBounds_toArray, List.set_cons_zero, List.set_cons_succ]
              refine wpAnyH_take (i := 9) (oi := _) (v := .bool true) rfl (by kernel_rfl) (by kernel_rfl) (by kernel_rfl) (fun _ _ _ h => h) (Or.inl ⟨by rfl, by intro w0 hSw; go_simp⟩) hHeld ?_
              try simp only [Act.put, List.getElem_toArray, List.getElem_cons_zero, List.getElem_cons_succ, List.setIfInBounds_toArray, List.set_cons_zero, List.set_cons_succ]
              refine wpAnyH_take (i := 10) (oi := _) (v := .bool true) rfl (by kernel_rfl) (by kernel_rfl) (by kernel_rfl) (fun _ _ _ h => h) (Or.inl ⟨by rfl, by intro w0 hSw; go_simp⟩) hHeld ?_
              try simp only [Act.put, List.getElem_toArray, List.getElem_cons_zero, List.getElem_cons_succ, List.setIfInBounds_toArray, List.set_cons_zero, List.set_cons_succ]
              refine wpAnyH_take (i := 11) (oi := _) (v := .bool true) rfl (by kernel_rfl) (by kernel_rfl) (by kernel_rfl) (fun _ _ _ h => h) (Or.inl ⟨by rfl, by intro w0 hSw; go_simp⟩) hHeld ?_
              try simp only [Act.put, List.getElem_toArray, List.getElem_cons_zero, List.getElem_cons_succ, List.setIfInBounds_toArray, List.set_cons_zero, List.set_cons_succ]
              refine wpAnyH_done (by kernel_rfl) ?_ _
              refine NoPanic.normal ?_
              go_wp2_with fail
              go_ret
              exact ⟨rfl, h4.trans (hHeld.mono h4.size)⟩
            exact AllReadyH.nil
          exact AllReadyH.nil
        exact AllReadyH.nil

      · have PO : Hid (fails v o 11 = false) := by show fails v o 11 = false; simpa using c
        have PJ : Hid (fails v (joinF v o t 8) 11 = z) := by show fails v (joinF v o t 8) 11 = z; rw [unhide PL, unhide PO, unhide PC]; rfl
        clear c PL
        go_wp2_with fail
        refine wp_region_noPanic ?_
        refine wp_region_held_drew (S := fun w' => Below wc.heap.size wc w') (by kernel_rfl) (Below.refl _ _).drew (fun hHeld => ?_)
        refine wpAnyH_take (i := 0) (oi := _) (v := _) rfl (by kernel_rfl) (by kernel_rfl) (by kernel_rfl) (fun _ _ _ h => h) (yieldsIf_load_mid (by rfl) 26 _ rfl _ _ rfl [.pointer (joinF v o t 8 0), .pointer (joinF v o t 8 1), .pointer (joinF v o t 8 2), .pointer (joinF v o t 8 3), .pointer (joinF v o t 8 4), .pointer (joinF v o t 8 5), .pointer (joinF v o t 8 6), .pointer (joinF v o t 8 7), .pointer (joinF v o t 8 8), .pointer (joinF v o t 8 9), .pointer (joinF v o t 8 10)] _ (fun _ h => row_in (unhide HG) hg h) Try.underlying26 rfl size26) hHeld ?_
        try simp only [Act.put, List.getElem_toArray, List.getElem_cons_zero, List.getElem_cons_succ, List.setIfInBounds_toArray, List.set_cons_zero, List.set_cons_succ]
        refine wpAnyH_take (i := 2) (oi := _) (v := _) rfl (by kernel_rfl) (by kernel_rfl) (by kernel_rfl) (fun _ _ _ h => h) (yieldsIf_load_mid (by rfl) 23 _ rfl _ _ rfl [.pointer (o 0), .pointer (o 1), .pointer (o 2), .pointer (o 3), .pointer (o 4), .pointer (o 5), .pointer (o 6), .pointer (o 7), .pointer (o 8), .pointer (o 9), .pointer (o 10)] _ (fun _ h => row_in (unhide H1) (by omega) h) Try.underlying23 rfl size23) hHeld ?_
        try simp only [Act.put, List.getElem_toArray, List.getElem_cons_zero, List.getElem_cons_succ, List.setIfInBounds_toArray, List.set_cons_zero, List.set_cons_succ]
        refine wpAnyH_ready (rs := [1]) (by kernel_rfl) (by simp) ?_
        refine AllReadyH.cons (o := _) rfl (fun K hK => ?_) ?_
        · go_simp
          refine (failed_is w v (joinF v o t 8) z (unhide PJ) (unhide GJ) _ (by exact h4.trans (hHeld.mono h4.size))).mono ?_
          rintro e w1 ⟨rfl, hb1⟩
          go_wp2_with fail
          refine hK.out _ _ (keep_call hHeld hb1) (fun hHeld => ?_)
          clear hK K
          try simp only [Act.put, List.getElem_toArray, List.getElem_cons_zero, List.getElem_cons_succ, List.setIfInBounds_toArray, List.set_cons_zero, List.set_cons_succ]
          refine wpAnyH_ready (rs := [3]) (by kernel_rfl) (by simp) ?_
          refine AllReadyH.cons (o := _) rfl (fun K hK => ?_) ?_
          · go_simp
            refine (checksOf_any _ _).mono ?_
            rintro e w2 ⟨rfl, hb2⟩
            go_wp2_with fail
            refine hK.out _ _ (keep_call hHeld hb2) (fun hHeld => ?_)
            clear hK K
            try simp only [Act.put, List.getElem_toArray, List.getElem_cons_zero, List.getElem_cons_succ, List.setIfInBounds_toArray, List.set_cons_zero, List.set_cons_succ]
            refine wpAnyH_ready (rs := [4]) (by kernel_rfl) (by simp) ?_
            refine AllReadyH.cons (o := _) rfl (fun K hK => ?_) ?_
            · go_simp
              refine (failed_is w v o false (unhide PO) (unhide GO) _ (by exact h4.trans (hHeld.mono h4.size))).mono ?_
              rintro e w3 ⟨rfl, hb3⟩
              go_wp2_with fail
              refine hK.out _ _ (keep_call hHeld hb3) (fun hHeld => ?_)
              clear hK K
              try simp only [Act.put, List.getElem_toArray, List.getElem_cons_zero, List.getElem_cons_succ, List.setIfInBounds_toArray, List.set_cons_zero, List.set_cons_succ]
              refine wpAnyH_take (i := 5) (oi := _) (v := .bool false) rfl (by kernel_rfl) (by kernel_rfl) (by kernel_rfl) (fun _ _ _ h => h) (Or.inl ⟨by rfl, by intro w0 hSw; go_simp⟩) hHeld ?_
              try simp only [Act.put, List.getElem_toArray, List.getElem_cons_zero, List.getElem_cons_succ, List.setIfInBounds_toArray, List.set_cons_zero, List.set_cons_succ]
              refine wpAnyH_take (i := 6) (oi := _) (v := _) rfl (by kernel_rfl) (by kernel_rfl) (by kernel_rfl) (fun _ _ _ h => h) (yieldsIf_load_mid (by rfl) 23 _ rfl _ _ rfl [.pointer (cutF t 0), .pointer (cutF t 1), .pointer (cutF t 2), .pointer (cutF t 3), .pointer (cutF t 4), .pointer (cutF t 5), .pointer (cutF t 6), .pointer (cutF t 7), .pointer (cutF t 8), .pointer (cutF t 9), .pointer (cutF t 10)] _ (fun _ h => row_in (unhide H3) (by omega) h) Try.underlying23 rfl size23) hHeld ?_
              try simp only [Act.put, List.getElem_toArray, List.getElem_cons_zero, List.getElem_cons_succ, List.setIfInBounds_toArray, List.set_cons_zero, List.set_cons_succ]
              refine wpAnyH_ready (rs := [7]) (by kernel_rfl) (by simp) ?_
              refine AllReadyH.cons (o := _) rfl (fun K hK => ?_) ?_
              · go_simp
                refine (checksOf_any _ _).mono ?_
                rintro e w4 ⟨rfl, hb4⟩
                go_wp2_with fail
                refine hK.out _ _ (keep_call hHeld hb4) (fun hHeld => ?_)
                clear hK K
                try simp only [Act.put, List.getElem_toArray, List.getElem_cons_zero, List.getElem_cons_succ, List.setIfInBounds_toArray, List.set_cons_zero, List.set_cons_succ]
                refine wpAnyH_ready (rs := [8]) (by kernel_rfl) (by simp) ?_
                refine AllReadyH.cons (o := _) rfl (fun K hK => ?_) ?_
                · go_simp
                  refine (failed_is w v (cutF t) z (unhide PC) (unhide GC) _ (by exact h4.trans (hHeld.mono h4.size))).mono ?_
                  rintro e w5 ⟨rfl, hb5⟩
                  go_wp2_with fail
                  refine hK.out _ _ (keep_call hHeld hb5) (fun hHeld => ?_)
                  clear hK K
                  try simp only [Act.put, List.getElem_toArray, List.getElem_cons_zero, List.getElem_cons_succ, List.setIfInBounds_toArray, List.set_cons_zero, List.set_cons_succ]
                  refine wpAnyH_take (i := 9) (oi := _) (v := .bool z) rfl (by kernel_rfl) (by kernel_rfl) (by kernel_rfl) (fun _ _ _ h => h) (Or.inl ⟨by rfl, by intro w0 hSw; go_simp⟩) hHeld ?_
                  try simp only [Act.put, List.getElem_toArray, List.getElem_cons_zero, List.getElem_cons_succ, List.setIfInBounds_toArray, List.set_cons_zero, List.set_cons_succ]
                  refine wpAnyH_take (i := 10) (oi := _) (v := .bool true) rfl (by kernel_rfl) (by kernel_rfl) (by kernel_rfl) (fun _ _ _ h => h) (Or.inl ⟨by rfl, by intro w0 hSw; go_simp⟩) hHeld ?_
                  try simp only [Act.put, List.getElem_toArray, List.getElem_cons_zero, List.getElem_cons_succ, List.setIfInBounds_toArray, List.set_cons_zero, List.set_cons_succ]
                  refine wpAnyH_take (i := 11) (oi := _) (v := .bool true) rfl (by kernel_rfl) (by kernel_rfl) (by kernel_rfl) (fun _ _ _ h => h) (Or.inl ⟨by rfl, by intro w0 hSw; go_simp⟩) hHeld ?_
                  try simp only [Act.put, List.getElem_toArray, List.getElem_cons_zero, List.getElem_cons_succ, List.setIfInBounds_toArray, List.set_cons_zero, List.set_cons_succ]
                  refine wpAnyH_done (by kernel_rfl) ?_ _
                  refine NoPanic.normal ?_
                  go_wp2_with fail
                  go_ret
                  exact ⟨rfl, h4.trans (hHeld.mono h4.size)⟩
                exact AllReadyH.nil
              exact AllReadyH.nil
            exact AllReadyH.nil
          exact AllReadyH.nil
        exact AllReadyH.nil

end Go.Proofs.Qxb6601817a.Join
