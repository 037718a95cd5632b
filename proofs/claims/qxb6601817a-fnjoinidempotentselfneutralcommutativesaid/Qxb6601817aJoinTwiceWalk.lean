/- Qxb6601817a: the walk of FnJoinIdempotentSelfNeutralCommutative. -/
import Derived.Test.Qxb6601817aJoinRegions
import Derived.LaidEql
import Derived.ChangeKeysEq
import Derived.WalkSmall
import Derived.Deep.QuietTactic
import Derived.BigQuiet
namespace Go.Proofs.Qxb6601817a.Join
open Go.ChangeShapes Go.WideShapes Go.ChangeAt Go.RowKit
set_option linter.unusedSimpArgs false
set_option linter.unusedVariables false

theorem lay_lt {w : World} {g : Nat} {f : Nat → Option Addr} (h : Lay w g f) : g < w.heap.size := World.block_lt_of_cell? w _ (h 0 (by omega))

/-! ### A row of pointers against itself -/
theorem info22 : (Try.prog.info? 22).isSome = true := by kernel_rfl
theorem info4 : (Try.prog.info? 4).isSome = true := by kernel_rfl
theorem ptr_same (d : Nat) (p : Option Addr) (w0 : World) : (Op.equalIn (d + 1) 22 (.pointer p) (.pointer p)).run Try.prog w0 = .ok true w0 := by
  obtain ⟨i, hi⟩ := Option.isSome_iff_exists.1 info4
  cases p with
  | none => simp [Op.equalIn, run_underlying Try.underlying22]
  | some a => simp [Op.equalIn, run_underlying Try.underlying22, sizeOf, typeInfo, hi, run_sameAddr_same]
theorem cells22' : Try.prog.cellsOf 22 = 1 := by kernel_rfl
theorem part_ptr (xs : Array Value) (k : Nat) (u : Value) (hx : xs[k]? = some u) (w0 : World) : (part 22 xs k).run Try.prog w0 = .ok u w0 := by
  simp [part, isAgg, Sem.run_bind, run_underlying Try.underlying22, hx]
theorem items_same (xs : Array Value) (d : Nat) (w0 : World) : ∀ is : List Nat, (∀ i ∈ is, ∃ p, xs[i * 1]? = some (.pointer p)) → (Op.eqItems (d + 1) 22 1 xs xs is).run Try.prog w0 = .ok true w0
  | [], _ => by simp [Op.eqItems]
  | i :: is, h => by
    obtain ⟨p, hp⟩ := h i (by simp)
    simp only [Op.eqItems, Sem.run_bind, part_ptr _ _ _ hp, Result.andThen_ok, ptr_same]
    simp only [Bool.not_true, Bool.false_eq_true, if_false]
    exact items_same xs d w0 is (fun j hj => h j (List.mem_cons_of_mem _ hj))
/-- A row of pointers is equal to itself. -/
theorem eq_row (f : Nat → Option Addr) (w0 : World) : Sem.run Try.prog (Op.equalIn 10000 23 (.agg #[.pointer (f 0), .pointer (f 1), .pointer (f 2), .pointer (f 3), .pointer (f 4), .pointer (f 5), .pointer (f 6), .pointer (f 7), .pointer (f 8), .pointer (f 9), .pointer (f 10)]) (.agg #[.pointer (f 0), .pointer (f 1), .pointer (f 2), .pointer (f 3), .pointer (f 4), .pointer (f 5), .pointer (f 6), .pointer (f 7), .pointer (f 8), .pointer (f 9), .pointer (f 10)])) w0 = .ok true w0 := by
  obtain ⟨i, hi⟩ := Option.isSome_iff_exists.1 info22
  have e : (10000 : Nat) = 9998 + 1 + 1 := rfl
  rw [e, run_equalIn_array w0 (9998 + 1) _ _ Try.underlying23 hi, cells22']
  refine items_same _ 9998 w0 _ (fun j hj => ?_)
  rw [List.mem_range] at hj
  rw [Nat.mul_one]
  match j, hj with
  | 0, _ => exact ⟨f 0, rfl⟩
  | 1, _ => exact ⟨f 1, rfl⟩
  | 2, _ => exact ⟨f 2, rfl⟩
  | 3, _ => exact ⟨f 3, rfl⟩
  | 4, _ => exact ⟨f 4, rfl⟩
  | 5, _ => exact ⟨f 5, rfl⟩
  | 6, _ => exact ⟨f 6, rfl⟩
  | 7, _ => exact ⟨f 7, rfl⟩
  | 8, _ => exact ⟨f 8, rfl⟩
  | 9, _ => exact ⟨f 9, rfl⟩
  | 10, _ => exact ⟨f 10, rfl⟩

/-! ### The plain law -/
theorem jn_twice (v : Addr → Bool) (o t : Option Addr) : jn v (jn v o t) t = jn v o t := by
  unfold jn
  cases t with
  | none => rfl
  | some ta => cases o with
    | none => cases h : v ta <;> simp [h]
    | some oa => cases h1 : v oa <;> cases h2 : v ta <;> simp [h1, h2]
theorem jn_self (v : Addr → Bool) (o : Option Addr) : jn v o o = o := by
  unfold jn
  cases o with
  | none => rfl
  | some oa => cases h1 : v oa <;> simp [h1]
theorem cls_comm (v : Addr → Bool) (o t : Option Addr) : cls v (jn v o t) = cls v (jn v t o) := by
  unfold jn cls
  cases t with
  | none => cases o <;> rfl
  | some ta => cases o with
    | none => rfl
    | some oa => cases h1 : v oa <;> cases h2 : v ta <;> simp [h1, h2]
theorem join_twice (v : Addr → Bool) (o t : Nat → Option Addr) (n : Nat) : joinF v (joinF v o t n) t n = joinF v o t n := by
  funext j
  unfold joinF
  by_cases c : j < n
  · simp only [if_pos c]; exact jn_twice _ _ _
  · simp only [if_neg c]
theorem join_self (v : Addr → Bool) (o : Nat → Option Addr) (n : Nat) : joinF v o o n = o := by
  funext j
  unfold joinF
  by_cases c : j < n
  · simp only [if_pos c]; exact jn_self _ _
  · simp only [if_neg c]
theorem cls_join (v : Addr → Bool) (o t : Nat → Option Addr) (j : Nat) (h : j < 8) : cls v (joinF v o t 8 j) = cls v (joinF v t o 8 j) := by
  unfold joinF
  rw [if_pos h, if_pos h]
  exact cls_comm _ _ _

theorem zzjoin_is (w : World) (v : Addr → Bool) (o t r : Nat → Option Addr) (hr : joinF v o t 8 = r) (go : Good w w.heap.size v o) (gt : Good w w.heap.size v t) (W : World) (h : Below w.heap.size w W) :
    Calls Try.prog 9 #[.agg #[.pointer (o 0), .pointer (o 1), .pointer (o 2), .pointer (o 3), .pointer (o 4), .pointer (o 5), .pointer (o 6), .pointer (o 7), .pointer (o 8), .pointer (o 9), .pointer (o 10)], .agg #[.pointer (t 0), .pointer (t 1), .pointer (t 2), .pointer (t 3), .pointer (t 4), .pointer (t 5), .pointer (t 6), .pointer (t 7), .pointer (t 8), .pointer (t 9), .pointer (t 10)]] W fun e w' => e = .returned (.agg #[.pointer (r 0), .pointer (r 1), .pointer (r 2), .pointer (r 3), .pointer (r 4), .pointer (r 5), .pointer (r 6), .pointer (r 7), .pointer (r 8), .pointer (r 9), .pointer (r 10)]) ∧ Below W.heap.size W w' := by
  rw [← hr]
  exact zzjoin_at w v o t go gt W h

theorem start5 (o t : Nat → Option Addr) (w : World) (W : World) (hW : W = ((w.alloc (.cells #[.pointer (o 0), .pointer (o 1), .pointer (o 2), .pointer (o 3), .pointer (o 4), .pointer (o 5), .pointer (o 6), .pointer (o 7), .pointer (o 8), .pointer (o 9), .pointer (o 10)] 23)).alloc (.cells #[.pointer (t 0), .pointer (t 1), .pointer (t 2), .pointer (t 3), .pointer (t 4), .pointer (t 5), .pointer (t 6), .pointer (t 7), .pointer (t 8), .pointer (t 9), .pointer (t 10)] 23))) : Lay W w.heap.size o ∧ Lay W (w.heap.size + 1) t ∧ Below w.heap.size w W ∧ w.heap.size + 2 ≤ W.heap.size := by
  subst hW
  have s1 : ∀ o1 : Obj, (w.alloc o1).heap.size = w.heap.size + 1 := fun o1 => by simp
  have s2 : ∀ o1 o2 : Obj, ((w.alloc o1).alloc o2).heap.size = w.heap.size + 1 + 1 := fun o1 o2 => by simp
  refine ⟨?_, ?_, ?_, ?_⟩
  · exact (Lay.new w o 23).alloc (by rw [s1]; omega) _
  · have h := Lay.new (w.alloc (.cells #[.pointer (o 0), .pointer (o 1), .pointer (o 2), .pointer (o 3), .pointer (o 4), .pointer (o 5), .pointer (o 6), .pointer (o 7), .pointer (o 8), .pointer (o 9), .pointer (o 10)] 23)) t 23
    rw [s1] at h
    exact h
  · exact ((Below.refl _ _).alloc (Nat.le_refl _) _).alloc (by rw [s1]; omega) _
  · rw [s2]; omega

set_option maxRecDepth 100000 in
set_option maxHeartbeats 8000000 in
theorem law5 (v : Addr → Bool) (o t : Nat → Option Addr) (w : World) (hgo : Good w w.heap.size v o) (hgt : Good w w.heap.size v t) :
    Calls Try.prog 5 #[.agg #[.pointer (o 0), .pointer (o 1), .pointer (o 2), .pointer (o 3), .pointer (o 4), .pointer (o 5), .pointer (o 6), .pointer (o 7), .pointer (o 8), .pointer (o 9), .pointer (o 10)], .agg #[.pointer (t 0), .pointer (t 1), .pointer (t 2), .pointer (t 3), .pointer (t 4), .pointer (t 5), .pointer (t 6), .pointer (t 7), .pointer (t 8), .pointer (t 9), .pointer (t 10)]] w fun e w' => e = .returned (.bool true) ∧ Below w.heap.size w w' := by
  have GJ := hide (hgo.join hgt 8)
  have GK := hide (hgt.join hgo 8)
  have GO := hide hgo
  have GT := hide hgt
  have hrow := eq_row
  have E1 := hide (join_twice v o t 8)
  have E2 := hide (join_self v o 8)
  clear hgo hgt
  go_enter Try.func5, Try.ntmps5
  go_upto_region 0 with fail
  go_cut [2, 3, 4] (fun s2 s3 s4 w' => s2 = .pointer (some ⟨w.heap.size, 0, none⟩) ∧ s3 = .pointer (some ⟨w.heap.size + 1, 0, none⟩) ∧ s4 = .bool false ∧ Lay w' w.heap.size o ∧ Lay w' (w.heap.size + 1) t ∧ Below w.heap.size w w' ∧ w.heap.size + 2 ≤ w'.heap.size)
  case first =>
    go_wp2_with fail
    go_meet
    case rel => exact ⟨rfl, rfl, rfl, start5 o t w _ rfl⟩
  case rest =>
    obtain ⟨rfl, rfl, rfl, hbase⟩ := hcut
    obtain ⟨h1, h2, h4, h5⟩ := hbase
    have H1 := hide h1
    have H2 := hide h2
    clear h1 h2
    go_wp2_with fail
    go_cut [5] (fun s5 w' => ∃ g1, s5 = .pointer (some ⟨g1, 0, none⟩) ∧ Lay w' g1 (joinF v o t 8) ∧ g1 < w'.heap.size ∧ Lay w' w.heap.size o ∧ Lay w' (w.heap.size + 1) t ∧ Below w.heap.size w w' ∧ w.heap.size + 2 ≤ w'.heap.size)
    case first =>
      refine wp_region_noPanic ?_
      refine wp_region_held_drew (S := fun w' => Below wc.heap.size wc w') (by kernel_rfl) (Below.refl _ _).drew (fun hHeld => ?_)
      refine wpAnyH_take (i := 0) (oi := _) (v := _) rfl (by kernel_rfl) (by kernel_rfl) (by kernel_rfl) (fun _ _ _ h => h) (yieldsIf_load_mid (by rfl) 23 _ rfl _ _ rfl [.pointer (o 0), .pointer (o 1), .pointer (o 2), .pointer (o 3), .pointer (o 4), .pointer (o 5), .pointer (o 6), .pointer (o 7), .pointer (o 8), .pointer (o 9), .pointer (o 10)] _ (fun _ h => row_in (unhide H1) (by omega) h) Try.underlying23 rfl size23) hHeld ?_
      try simp only [Act.put, List.getElem_toArray, List.getElem_cons_zero, List.getElem_cons_succ, List.setIfInBounds_toArray, List.set_cons_zero, List.set_cons_succ]
      refine wpAnyH_take (i := 2) (oi := _) (v := _) rfl (by kernel_rfl) (by kernel_rfl) (by kernel_rfl) (fun _ _ _ h => h) (yieldsIf_load_mid (by rfl) 23 _ rfl _ _ rfl [.pointer (t 0), .pointer (t 1), .pointer (t 2), .pointer (t 3), .pointer (t 4), .pointer (t 5), .pointer (t 6), .pointer (t 7), .pointer (t 8), .pointer (t 9), .pointer (t 10)] _ (fun _ h => row_in (unhide H2) (by omega) h) Try.underlying23 rfl size23) hHeld ?_
      try simp only [Act.put, List.getElem_toArray, List.getElem_cons_zero, List.getElem_cons_succ, List.setIfInBounds_toArray, List.set_cons_zero, List.set_cons_succ]
      refine wpAnyH_ready (rs := [1, 5]) (by kernel_rfl) (by simp) ?_
      refine AllReadyH.cons (o := _) rfl (fun K hK => ?_) ?_
      · go_simp
        refine (checksOf_any _ _).mono ?_
        rintro e w1 ⟨rfl, hb1⟩
        go_wp2_with fail
        refine hK.out _ _ (keep_call hHeld hb1) (fun hHeld => ?_)
        clear hK K
        try simp only [Act.put, List.getElem_toArray, List.getElem_cons_zero, List.getElem_cons_succ, List.setIfInBounds_toArray, List.set_cons_zero, List.set_cons_succ]
        refine wpAnyH_ready (rs := [3, 5]) (by kernel_rfl) (by simp) ?_
        refine AllReadyH.cons (o := _) rfl (fun K hK => ?_) ?_
        · go_simp
          refine (checksOf_any _ _).mono ?_
          rintro e w2 ⟨rfl, hb2⟩
          go_wp2_with fail
          refine hK.out _ _ (keep_call hHeld hb2) (fun hHeld => ?_)
          clear hK K
          try simp only [Act.put, List.getElem_toArray, List.getElem_cons_zero, List.getElem_cons_succ, List.setIfInBounds_toArray, List.set_cons_zero, List.set_cons_succ]
          refine wpAnyH_ready (rs := [4, 5]) (by kernel_rfl) (by simp) ?_
          refine AllReadyH.cons (o := _) rfl (fun K hK => ?_) ?_
          · go_simp
            refine (zzjoin_at w v o t (unhide GO) (unhide GT) _ (by exact h4.trans (hHeld.mono h4.size))).mono ?_
            rintro e w3 ⟨rfl, hb3⟩
            go_wp2_with fail
            refine hK.out _ _ (keep_call hHeld hb3) (fun hHeld => ?_)
            clear hK K
            try simp only [Act.put, List.getElem_toArray, List.getElem_cons_zero, List.getElem_cons_succ, List.setIfInBounds_toArray, List.set_cons_zero, List.set_cons_succ]
            refine wpAnyH_ready (rs := [5]) (by kernel_rfl) (by simp) ?_
            refine AllReadyH.cons (o := _) rfl (fun K hK => ?_) ?_
            · go_simp
              have hg := hHeld.size
              refine hK.out _ _ (keep_alloc hHeld _) (fun hHeld => ?_)
              clear hK K
              have hth := there_new w3 26
              try simp only [Act.put, List.getElem_toArray, List.getElem_cons_zero, List.getElem_cons_succ, List.setIfInBounds_toArray, List.set_cons_zero, List.set_cons_succ]
              refine wpAnyH_ready (rs := [6]) (by kernel_rfl) (by simp) ?_
              refine AllReadyH.cons (o := _) rfl (fun K hK => ?_) ?_
              · rw [if_pos (by rfl)]
                refine wp_store_mid 26 _ _ rfl w3.heap.size 0 #[.pointer (joinF v o t 8 0), .pointer (joinF v o t 8 1), .pointer (joinF v o t 8 2), .pointer (joinF v o t 8 3), .pointer (joinF v o t 8 4), .pointer (joinF v o t 8 5), .pointer (joinF v o t 8 6), .pointer (joinF v o t 8 7), .pointer (joinF v o t 8 8), .pointer (joinF v o t 8 9), .pointer (joinF v o t 8 10)] rfl rfl hth size26 (one11 _) ?_
                try simp only [Act.put, List.getElem_toArray, List.getElem_cons_zero, List.getElem_cons_succ, List.setIfInBounds_toArray, List.set_cons_zero, List.set_cons_succ]
                refine hK.out _ _ (keep_store hHeld hg _ _) (fun hHeld => ?_)
                clear hK K
                refine wpAnyH_done (by kernel_rfl) ?_ _
                refine NoPanic.normal ?_
                go_wp2_with fail
                go_meet
                case rel => exact ⟨w3.heap.size, rfl, Lay.set (joinF v o t 8) hth, lay_lt (Lay.set (joinF v o t 8) hth), (unhide H1).below hHeld (by omega), (unhide H2).below hHeld (by omega), h4.trans (hHeld.mono h4.size), Nat.le_trans h5 hHeld.size⟩
              exact AllReadyH.nil
            exact AllReadyH.nil
          refine AllReadyH.cons (o := _) rfl (fun K hK => ?_) ?_
          · go_simp
            have hg := hHeld.size
            refine hK.out _ _ (keep_alloc hHeld _) (fun hHeld => ?_)
            clear hK K
            have hth := there_new w2 26
            try simp only [Act.put, List.getElem_toArray, List.getElem_cons_zero, List.getElem_cons_succ, List.setIfInBounds_toArray, List.set_cons_zero, List.set_cons_succ]
            refine wpAnyH_ready (rs := [4]) (by kernel_rfl) (by simp) ?_
            refine AllReadyH.cons (o := _) rfl (fun K hK => ?_) ?_
            · go_simp
              refine (zzjoin_at w v o t (unhide GO) (unhide GT) _ (by exact h4.trans (hHeld.mono h4.size))).mono ?_
              rintro e w4 ⟨rfl, hb4⟩
              go_wp2_with fail
              refine hK.out _ _ (keep_call hHeld hb4) (fun hHeld => ?_)
              clear hK K
              have hth := there_below hth hb4
              try simp only [Act.put, List.getElem_toArray, List.getElem_cons_zero, List.getElem_cons_succ, List.setIfInBounds_toArray, List.set_cons_zero, List.set_cons_succ]
              refine wpAnyH_ready (rs := [6]) (by kernel_rfl) (by simp) ?_
              refine AllReadyH.cons (o := _) rfl (fun K hK => ?_) ?_
              · rw [if_pos (by rfl)]
                refine wp_store_mid 26 _ _ rfl w2.heap.size 0 #[.pointer (joinF v o t 8 0), .pointer (joinF v o t 8 1), .pointer (joinF v o t 8 2), .pointer (joinF v o t 8 3), .pointer (joinF v o t 8 4), .pointer (joinF v o t 8 5), .pointer (joinF v o t 8 6), .pointer (joinF v o t 8 7), .pointer (joinF v o t 8 8), .pointer (joinF v o t 8 9), .pointer (joinF v o t 8 10)] rfl rfl hth size26 (one11 _) ?_
                try simp only [Act.put, List.getElem_toArray, List.getElem_cons_zero, List.getElem_cons_succ, List.setIfInBounds_toArray, List.set_cons_zero, List.set_cons_succ]
                refine hK.out _ _ (keep_store hHeld hg _ _) (fun hHeld => ?_)
                clear hK K
                refine wpAnyH_done (by kernel_rfl) ?_ _
                refine NoPanic.normal ?_
                go_wp2_with fail
                go_meet
                case rel => exact ⟨w2.heap.size, rfl, Lay.set (joinF v o t 8) hth, lay_lt (Lay.set (joinF v o t 8) hth), (unhide H1).below hHeld (by omega), (unhide H2).below hHeld (by omega), h4.trans (hHeld.mono h4.size), Nat.le_trans h5 hHeld.size⟩
              exact AllReadyH.nil
            exact AllReadyH.nil
          exact AllReadyH.nil
        refine AllReadyH.cons (o := _) rfl (fun K hK => ?_) ?_
        · go_simp
          have hg := hHeld.size
          refine hK.out _ _ (keep_alloc hHeld _) (fun hHeld => ?_)
          clear hK K
          have hth := there_new w1 26
          try simp only [Act.put, List.getElem_toArray, List.getElem_cons_zero, List.getElem_cons_succ, List.setIfInBounds_toArray, List.set_cons_zero, List.set_cons_succ]
          refine wpAnyH_ready (rs := [3]) (by kernel_rfl) (by simp) ?_
          refine AllReadyH.cons (o := _) rfl (fun K hK => ?_) ?_
          · go_simp
            refine (checksOf_any _ _).mono ?_
            rintro e w5 ⟨rfl, hb5⟩
            go_wp2_with fail
            refine hK.out _ _ (keep_call hHeld hb5) (fun hHeld => ?_)
            clear hK K
            have hth := there_below hth hb5
            try simp only [Act.put, List.getElem_toArray, List.getElem_cons_zero, List.getElem_cons_succ, List.setIfInBounds_toArray, List.set_cons_zero, List.set_cons_succ]
            refine wpAnyH_ready (rs := [4]) (by kernel_rfl) (by simp) ?_
            refine AllReadyH.cons (o := _) rfl (fun K hK => ?_) ?_
            · go_simp
              refine (zzjoin_at w v o t (unhide GO) (unhide GT) _ (by exact h4.trans (hHeld.mono h4.size))).mono ?_
              rintro e w6 ⟨rfl, hb6⟩
              go_wp2_with fail
              refine hK.out _ _ (keep_call hHeld hb6) (fun hHeld => ?_)
              clear hK K
              have hth := there_below hth hb6
              try simp only [Act.put, List.getElem_toArray, List.getElem_cons_zero, List.getElem_cons_succ, List.setIfInBounds_toArray, List.set_cons_zero, List.set_cons_succ]
              refine wpAnyH_ready (rs := [6]) (by kernel_rfl) (by simp) ?_
              refine AllReadyH.cons (o := _) rfl (fun K hK => ?_) ?_
              · rw [if_pos (by rfl)]
                refine wp_store_mid 26 _ _ rfl w1.heap.size 0 #[.pointer (joinF v o t 8 0), .pointer (joinF v o t 8 1), .pointer (joinF v o t 8 2), .pointer (joinF v o t 8 3), .pointer (joinF v o t 8 4), .pointer (joinF v o t 8 5), .pointer (joinF v o t 8 6), .pointer (joinF v o t 8 7), .pointer (joinF v o t 8 8), .pointer (joinF v o t 8 9), .pointer (joinF v o t 8 10)] rfl rfl hth size26 (one11 _) ?_
                try simp only [Act.put, List.getElem_toArray, List.getElem_cons_zero, List.getElem_cons_succ, List.setIfInBounds_toArray, List.set_cons_zero, List.set_cons_succ]
                refine hK.out _ _ (keep_store hHeld hg _ _) (fun hHeld => ?_)
                clear hK K
                refine wpAnyH_done (by kernel_rfl) ?_ _
                refine NoPanic.normal ?_
                go_wp2_with fail
                go_meet
                case rel => exact ⟨w1.heap.size, rfl, Lay.set (joinF v o t 8) hth, lay_lt (Lay.set (joinF v o t 8) hth), (unhide H1).below hHeld (by omega), (unhide H2).below hHeld (by omega), h4.trans (hHeld.mono h4.size), Nat.le_trans h5 hHeld.size⟩
              exact AllReadyH.nil
            exact AllReadyH.nil
          exact AllReadyH.nil
        exact AllReadyH.nil
      refine AllReadyH.cons (o := _) rfl (fun K hK => ?_) ?_
      · go_simp
        have hg := hHeld.size
        refine hK.out _ _ (keep_alloc hHeld _) (fun hHeld => ?_)
        clear hK K
        have hth : (wc.alloc (.cells #[.pointer none, .pointer none, .pointer none, .pointer none, .pointer none, .pointer none, .pointer none, .pointer none, .pointer none, .pointer none, .pointer none] 26)).drew.there wc.heap.size 0 11 := there_new wc 26
        try simp only [Act.put, List.getElem_toArray, List.getElem_cons_zero, List.getElem_cons_succ, List.setIfInBounds_toArray, List.set_cons_zero, List.set_cons_succ]
        refine wpAnyH_ready (rs := [1]) (by kernel_rfl) (by simp) ?_
        refine AllReadyH.cons (o := _) rfl (fun K hK => ?_) ?_
        · go_simp
          refine (checksOf_any _ _).mono ?_
          rintro e w7 ⟨rfl, hb7⟩
          go_wp2_with fail
          refine hK.out _ _ (keep_call hHeld hb7) (fun hHeld => ?_)
          clear hK K
          have hth := there_below hth hb7
          try simp only [Act.put, List.getElem_toArray, List.getElem_cons_zero, List.getElem_cons_succ, List.setIfInBounds_toArray, List.set_cons_zero, List.set_cons_succ]
          refine wpAnyH_ready (rs := [3]) (by kernel_rfl) (by simp) ?_
          refine AllReadyH.cons (o := _) rfl (fun K hK => ?_) ?_
          · go_simp
            refine (checksOf_any _ _).mono ?_
            rintro e w8 ⟨rfl, hb8⟩
            go_wp2_with fail
            refine hK.out _ _ (keep_call hHeld hb8) (fun hHeld => ?_)
            clear hK K
            have hth := there_below hth hb8
            try simp only [Act.put, List.getElem_toArray, List.getElem_cons_zero, List.getElem_cons_succ, List.setIfInBounds_toArray, List.set_cons_zero, List.set_cons_succ]
            refine wpAnyH_ready (rs := [4]) (by kernel_rfl) (by simp) ?_
            refine AllReadyH.cons (o := _) rfl (fun K hK => ?_) ?_
            · go_simp
              refine (zzjoin_at w v o t (unhide GO) (unhide GT) _ (by exact h4.trans (hHeld.mono h4.size))).mono ?_
              rintro e w9 ⟨rfl, hb9⟩
              go_wp2_with fail
              refine hK.out _ _ (keep_call hHeld hb9) (fun hHeld => ?_)
              clear hK K
              have hth := there_below hth hb9
              try simp only [Act.put, List.getElem_toArray, List.getElem_cons_zero, List.getElem_cons_succ, List.setIfInBounds_toArray, List.set_cons_zero, List.set_cons_succ]
              refine wpAnyH_ready (rs := [6]) (by kernel_rfl) (by simp) ?_
              refine AllReadyH.cons (o := _) rfl (fun K hK => ?_) ?_
              · rw [if_pos (by rfl)]
                refine wp_store_mid 26 _ _ rfl wc.heap.size 0 #[.pointer (joinF v o t 8 0), .pointer (joinF v o t 8 1), .pointer (joinF v o t 8 2), .pointer (joinF v o t 8 3), .pointer (joinF v o t 8 4), .pointer (joinF v o t 8 5), .pointer (joinF v o t 8 6), .pointer (joinF v o t 8 7), .pointer (joinF v o t 8 8), .pointer (joinF v o t 8 9), .pointer (joinF v o t 8 10)] rfl rfl hth size26 (one11 _) ?_
                try simp only [Act.put, List.getElem_toArray, List.getElem_cons_zero, List.getElem_cons_succ, List.setIfInBounds_toArray, List.set_cons_zero, List.set_cons_succ]
                refine hK.out _ _ (keep_store hHeld hg _ _) (fun hHeld => ?_)
                clear hK K
                refine wpAnyH_done (by kernel_rfl) ?_ _
                refine NoPanic.normal ?_
                go_wp2_with fail
                go_meet
                case rel => exact ⟨wc.heap.size, rfl, Lay.set (joinF v o t 8) hth, lay_lt (Lay.set (joinF v o t 8) hth), (unhide H1).below hHeld (by omega), (unhide H2).below hHeld (by omega), h4.trans (hHeld.mono h4.size), Nat.le_trans h5 hHeld.size⟩
              exact AllReadyH.nil
            exact AllReadyH.nil
          exact AllReadyH.nil
        exact AllReadyH.nil
      exact AllReadyH.nil

    case rest =>
      clear h4 h5 H1 H2
      obtain ⟨g1, rfl, hgl1, hg1, hbase⟩ := hcut
      have HG1 := hide hgl1
      clear hgl1
      obtain ⟨h1, h2, h4, h5⟩ := hbase
      have H1 := hide h1
      have H2 := hide h2
      clear h1 h2
      go_wp2_with fail
      go_cut [6] (fun s6 w' => ∃ g2, s6 = .pointer (some ⟨g2, 0, none⟩) ∧ Lay w' g2 (joinF v o t 8) ∧ g2 < w'.heap.size ∧ Lay w' g1 (joinF v o t 8) ∧ g1 < w'.heap.size ∧ Lay w' w.heap.size o ∧ Lay w' (w.heap.size + 1) t ∧ Below w.heap.size w w' ∧ w.heap.size + 2 ≤ w'.heap.size)
      case first =>
        refine wp_region_noPanic ?_
        refine wp_region_held_drew (S := fun w' => Below wc.heap.size wc w') (by kernel_rfl) (Below.refl _ _).drew (fun hHeld => ?_)
        refine wpAnyH_take (i := 0) (oi := _) (v := _) rfl (by kernel_rfl) (by kernel_rfl) (by kernel_rfl) (fun _ _ _ h => h) (yieldsIf_load_mid (by rfl) 26 _ rfl _ _ rfl [.pointer (joinF v o t 8 0), .pointer (joinF v o t 8 1), .pointer (joinF v o t 8 2), .pointer (joinF v o t 8 3), .pointer (joinF v o t 8 4), .pointer (joinF v o t 8 5), .pointer (joinF v o t 8 6), .pointer (joinF v o t 8 7), .pointer (joinF v o t 8 8), .pointer (joinF v o t 8 9), .pointer (joinF v o t 8 10)] _ (fun _ h => row_in (unhide HG1) hg1 h) Try.underlying26 rfl size26) hHeld ?_
        try simp only [Act.put, List.getElem_toArray, List.getElem_cons_zero, List.getElem_cons_succ, List.setIfInBounds_toArray, List.set_cons_zero, List.set_cons_succ]
        refine wpAnyH_take (i := 1) (oi := _) (v := _) rfl (by kernel_rfl) (by kernel_rfl) (by kernel_rfl) (fun _ _ _ h => h) (yieldsIf_load_mid (by rfl) 23 _ rfl _ _ rfl [.pointer (t 0), .pointer (t 1), .pointer (t 2), .pointer (t 3), .pointer (t 4), .pointer (t 5), .pointer (t 6), .pointer (t 7), .pointer (t 8), .pointer (t 9), .pointer (t 10)] _ (fun _ h => row_in (unhide H2) (by omega) h) Try.underlying23 rfl size23) hHeld ?_
        try simp only [Act.put, List.getElem_toArray, List.getElem_cons_zero, List.getElem_cons_succ, List.setIfInBounds_toArray, List.set_cons_zero, List.set_cons_succ]
        refine wpAnyH_ready (rs := [2, 4]) (by kernel_rfl) (by simp) ?_
        refine AllReadyH.cons (o := _) rfl (fun K hK => ?_) ?_
        · go_simp
          refine (checksOf_any _ _).mono ?_
          rintro e w1 ⟨rfl, hb1⟩
          go_wp2_with fail
          refine hK.out _ _ (keep_call hHeld hb1) (fun hHeld => ?_)
          clear hK K
          try simp only [Act.put, List.getElem_toArray, List.getElem_cons_zero, List.getElem_cons_succ, List.setIfInBounds_toArray, List.set_cons_zero, List.set_cons_succ]
          refine wpAnyH_ready (rs := [3, 4]) (by kernel_rfl) (by simp) ?_
          refine AllReadyH.cons (o := _) rfl (fun K hK => ?_) ?_
          · go_simp
            refine (zzjoin_is w v (joinF v o t 8) t (joinF v o t 8) (unhide E1) (unhide GJ) (unhide GT) _ (by exact h4.trans (hHeld.mono h4.size))).mono ?_
            rintro e w2 ⟨rfl, hb2⟩
            go_wp2_with fail
            refine hK.out _ _ (keep_call hHeld hb2) (fun hHeld => ?_)
            clear hK K
            try simp only [Act.put, List.getElem_toArray, List.getElem_cons_zero, List.getElem_cons_succ, List.setIfInBounds_toArray, List.set_cons_zero, List.set_cons_succ]
            refine wpAnyH_ready (rs := [4]) (by kernel_rfl) (by simp) ?_
            refine AllReadyH.cons (o := _) rfl (fun K hK => ?_) ?_
            · go_simp
              have hg := hHeld.size
              refine hK.out _ _ (keep_alloc hHeld _) (fun hHeld => ?_)
              clear hK K
              have hth := there_new w2 26
              try simp only [Act.put, List.getElem_toArray, List.getElem_cons_zero, List.getElem_cons_succ, List.setIfInBounds_toArray, List.set_cons_zero, List.set_cons_succ]
              refine wpAnyH_ready (rs := [5]) (by kernel_rfl) (by simp) ?_
              refine AllReadyH.cons (o := _) rfl (fun K hK => ?_) ?_
              · rw [if_pos (by rfl)]
                refine wp_store_mid 26 _ _ rfl w2.heap.size 0 #[.pointer (joinF v o t 8 0), .pointer (joinF v o t 8 1), .pointer (joinF v o t 8 2), .pointer (joinF v o t 8 3), .pointer (joinF v o t 8 4), .pointer (joinF v o t 8 5), .pointer (joinF v o t 8 6), .pointer (joinF v o t 8 7), .pointer (joinF v o t 8 8), .pointer (joinF v o t 8 9), .pointer (joinF v o t 8 10)] rfl rfl hth size26 (one11 _) ?_
                try simp only [Act.put, List.getElem_toArray, List.getElem_cons_zero, List.getElem_cons_succ, List.setIfInBounds_toArray, List.set_cons_zero, List.set_cons_succ]
                refine hK.out _ _ (keep_store hHeld hg _ _) (fun hHeld => ?_)
                clear hK K
                refine wpAnyH_done (by kernel_rfl) ?_ _
                refine NoPanic.normal ?_
                go_wp2_with fail
                go_meet
                case rel => exact ⟨w2.heap.size, rfl, Lay.set (joinF v o t 8) hth, lay_lt (Lay.set (joinF v o t 8) hth), (unhide HG1).below hHeld hg1, Nat.lt_of_lt_of_le hg1 hHeld.size, (unhide H1).below hHeld (by omega), (unhide H2).below hHeld (by omega), h4.trans (hHeld.mono h4.size), Nat.le_trans h5 hHeld.size⟩
              exact AllReadyH.nil
            exact AllReadyH.nil
          refine AllReadyH.cons (o := _) rfl (fun K hK => ?_) ?_
          · go_simp
            have hg := hHeld.size
            refine hK.out _ _ (keep_alloc hHeld _) (fun hHeld => ?_)
            clear hK K
            have hth := there_new w1 26
            try simp only [Act.put, List.getElem_toArray, List.getElem_cons_zero, List.getElem_cons_succ, List.setIfInBounds_toArray, List.set_cons_zero, List.set_cons_succ]
            refine wpAnyH_ready (rs := [3]) (by kernel_rfl) (by simp) ?_
            refine AllReadyH.cons (o := _) rfl (fun K hK => ?_) ?_
            · go_simp
              refine (zzjoin_is w v (joinF v o t 8) t (joinF v o t 8) (unhide E1) (unhide GJ) (unhide GT) _ (by exact h4.trans (hHeld.mono h4.size))).mono ?_
              rintro e w3 ⟨rfl, hb3⟩
              go_wp2_with fail
              refine hK.out _ _ (keep_call hHeld hb3) (fun hHeld => ?_)
              clear hK K
              have hth := there_below hth hb3
              try simp only [Act.put, List.getElem_toArray, List.getElem_cons_zero, List.getElem_cons_succ, List.setIfInBounds_toArray, List.set_cons_zero, List.set_cons_succ]
              refine wpAnyH_ready (rs := [5]) (by kernel_rfl) (by simp) ?_
              refine AllReadyH.cons (o := _) rfl (fun K hK => ?_) ?_
              · rw [if_pos (by rfl)]
                refine wp_store_mid 26 _ _ rfl w1.heap.size 0 #[.pointer (joinF v o t 8 0), .pointer (joinF v o t 8 1), .pointer (joinF v o t 8 2), .pointer (joinF v o t 8 3), .pointer (joinF v o t 8 4), .pointer (joinF v o t 8 5), .pointer (joinF v o t 8 6), .pointer (joinF v o t 8 7), .pointer (joinF v o t 8 8), .pointer (joinF v o t 8 9), .pointer (joinF v o t 8 10)] rfl rfl hth size26 (one11 _) ?_
                try simp only [Act.put, List.getElem_toArray, List.getElem_cons_zero, List.getElem_cons_succ, List.setIfInBounds_toArray, List.set_cons_zero, List.set_cons_succ]
                refine hK.out _ _ (keep_store hHeld hg _ _) (fun hHeld => ?_)
                clear hK K
                refine wpAnyH_done (by kernel_rfl) ?_ _
                refine NoPanic.normal ?_
                go_wp2_with fail
                go_meet
                case rel => exact ⟨w1.heap.size, rfl, Lay.set (joinF v o t 8) hth, lay_lt (Lay.set (joinF v o t 8) hth), (unhide HG1).below hHeld hg1, Nat.lt_of_lt_of_le hg1 hHeld.size, (unhide H1).below hHeld (by omega), (unhide H2).below hHeld (by omega), h4.trans (hHeld.mono h4.size), Nat.le_trans h5 hHeld.size⟩
              exact AllReadyH.nil
            exact AllReadyH.nil
          exact AllReadyH.nil
        refine AllReadyH.cons (o := _) rfl (fun K hK => ?_) ?_
        · go_simp
          have hg := hHeld.size
          refine hK.out _ _ (keep_alloc hHeld _) (fun hHeld => ?_)
          clear hK K
          have hth : (wc.alloc (.cells #[.pointer none, .pointer none, .pointer none, .pointer none, .pointer none, .pointer none, .pointer none, .pointer none, .pointer none, .pointer none, .pointer none] 26)).drew.there wc.heap.size 0 11 := there_new wc 26
          try simp only [Act.put, List.getElem_toArray, List.getElem_cons_zero, List.getElem_cons_succ, List.setIfInBounds_toArray, List.set_cons_zero, List.set_cons_succ]
          refine wpAnyH_ready (rs := [2]) (by kernel_rfl) (by simp) ?_
          refine AllReadyH.cons (o := _) rfl (fun K hK => ?_) ?_
          · go_simp
            refine (checksOf_any _ _).mono ?_
            rintro e w4 ⟨rfl, hb4⟩
            go_wp2_with fail
            refine hK.out _ _ (keep_call hHeld hb4) (fun hHeld => ?_)
            clear hK K
            have hth := there_below hth hb4
            try simp only [Act.put, List.getElem_toArray, List.getElem_cons_zero, List.getElem_cons_succ, List.setIfInBounds_toArray, List.set_cons_zero, List.set_cons_succ]
            refine wpAnyH_ready (rs := [3]) (by kernel_rfl) (by simp) ?_
            refine AllReadyH.cons (o := _) rfl (fun K hK => ?_) ?_
            · go_simp
              refine (zzjoin_is w v (joinF v o t 8) t (joinF v o t 8) (unhide E1) (unhide GJ) (unhide GT) _ (by exact h4.trans (hHeld.mono h4.size))).mono ?_
              rintro e w5 ⟨rfl, hb5⟩
              go_wp2_with fail
              refine hK.out _ _ (keep_call hHeld hb5) (fun hHeld => ?_)
              clear hK K
              have hth := there_below hth hb5
              try simp only [Act.put, List.getElem_toArray, List.getElem_cons_zero, List.getElem_cons_succ, List.setIfInBounds_toArray, List.set_cons_zero, List.set_cons_succ]
              refine wpAnyH_ready (rs := [5]) (by kernel_rfl) (by simp) ?_
              refine AllReadyH.cons (o := _) rfl (fun K hK => ?_) ?_
              · rw [if_pos (by rfl)]
                refine wp_store_mid 26 _ _ rfl wc.heap.size 0 #[.pointer (joinF v o t 8 0), .pointer (joinF v o t 8 1), .pointer (joinF v o t 8 2), .pointer (joinF v o t 8 3), .pointer (joinF v o t 8 4), .pointer (joinF v o t 8 5), .pointer (joinF v o t 8 6), .pointer (joinF v o t 8 7), .pointer (joinF v o t 8 8), .pointer (joinF v o t 8 9), .pointer (joinF v o t 8 10)] rfl rfl hth size26 (one11 _) ?_
                try simp only [Act.put, List.getElem_toArray, List.getElem_cons_zero, List.getElem_cons_succ, List.setIfInBounds_toArray, List.set_cons_zero, List.set_cons_succ]
                refine hK.out _ _ (keep_store hHeld hg _ _) (fun hHeld => ?_)
                clear hK K
                refine wpAnyH_done (by kernel_rfl) ?_ _
                refine NoPanic.normal ?_
                go_wp2_with fail
                go_meet
                case rel => exact ⟨wc.heap.size, rfl, Lay.set (joinF v o t 8) hth, lay_lt (Lay.set (joinF v o t 8) hth), (unhide HG1).below hHeld hg1, Nat.lt_of_lt_of_le hg1 hHeld.size, (unhide H1).below hHeld (by omega), (unhide H2).below hHeld (by omega), h4.trans (hHeld.mono h4.size), Nat.le_trans h5 hHeld.size⟩
              exact AllReadyH.nil
            exact AllReadyH.nil
          exact AllReadyH.nil
        exact AllReadyH.nil

      case rest =>
      clear h4 h5 H1 H2 HG1 hg1
      obtain ⟨g2, rfl, hgl2, hg2, hgl1, hg1, hbase⟩ := hcut
      have HG1 := hide hgl1
      have HG2 := hide hgl2
      clear hgl1 hgl2
      obtain ⟨h1, h2, h4, h5⟩ := hbase
      have H1 := hide h1
      have H2 := hide h2
      clear h1 h2
      go_wp2_with fail
      go_cut [23] (fun s23 w' => s23 = .bool false ∧ Lay w' g1 (joinF v o t 8) ∧ g1 < w'.heap.size ∧ Lay w' w.heap.size o ∧ Lay w' (w.heap.size + 1) t ∧ Below w.heap.size w w' ∧ w.heap.size + 2 ≤ w'.heap.size)
      case first =>
        refine wp_region_noPanic ?_
        refine wp_region_held_drew (S := fun w' => Below wc.heap.size wc w') (by kernel_rfl) (Below.refl _ _).drew (fun hHeld => ?_)
        refine wpAnyH_take (i := 0) (oi := _) (v := _) rfl (by kernel_rfl) (by kernel_rfl) (by kernel_rfl) (fun _ _ _ h => h) (yieldsIf_load_mid (by rfl) 26 _ rfl _ _ rfl [.pointer (joinF v o t 8 0), .pointer (joinF v o t 8 1), .pointer (joinF v o t 8 2), .pointer (joinF v o t 8 3), .pointer (joinF v o t 8 4), .pointer (joinF v o t 8 5), .pointer (joinF v o t 8 6), .pointer (joinF v o t 8 7), .pointer (joinF v o t 8 8), .pointer (joinF v o t 8 9), .pointer (joinF v o t 8 10)] _ (fun _ h => row_in (unhide HG2) hg2 h) Try.underlying26 rfl size26) hHeld ?_
        try simp only [Act.put, List.getElem_toArray, List.getElem_cons_zero, List.getElem_cons_succ, List.setIfInBounds_toArray, List.set_cons_zero, List.set_cons_succ]
        refine wpAnyH_take (i := 2) (oi := _) (v := _) rfl (by kernel_rfl) (by kernel_rfl) (by kernel_rfl) (fun _ _ _ h => h) (yieldsIf_load_mid (by rfl) 26 _ rfl _ _ rfl [.pointer (joinF v o t 8 0), .pointer (joinF v o t 8 1), .pointer (joinF v o t 8 2), .pointer (joinF v o t 8 3), .pointer (joinF v o t 8 4), .pointer (joinF v o t 8 5), .pointer (joinF v o t 8 6), .pointer (joinF v o t 8 7), .pointer (joinF v o t 8 8), .pointer (joinF v o t 8 9), .pointer (joinF v o t 8 10)] _ (fun _ h => row_in (unhide HG1) hg1 h) Try.underlying26 rfl size26) hHeld ?_
        try simp only [Act.put, List.getElem_toArray, List.getElem_cons_zero, List.getElem_cons_succ, List.setIfInBounds_toArray, List.set_cons_zero, List.set_cons_succ]
        refine wpAnyH_ready (rs := [1]) (by kernel_rfl) (by simp) ?_
        refine AllReadyH.cons (o := _) rfl (fun K hK => ?_) ?_
        · go_simp
          refine (fieldsOf_any _ _).mono ?_
          rintro e w1 ⟨rfl, hb1⟩
          go_wp2_with fail
          refine hK.out _ _ (keep_call hHeld hb1) (fun hHeld => ?_)
          clear hK K
          try simp only [Act.put, List.getElem_toArray, List.getElem_cons_zero, List.getElem_cons_succ, List.setIfInBounds_toArray, List.set_cons_zero, List.set_cons_succ]
          refine wpAnyH_ready (rs := [3]) (by kernel_rfl) (by simp) ?_
          refine AllReadyH.cons (o := _) rfl (fun K hK => ?_) ?_
          · go_simp
            refine (fieldsOf_any _ _).mono ?_
            rintro e w2 ⟨rfl, hb2⟩
            go_wp2_with fail
            refine hK.out _ _ (keep_call hHeld hb2) (fun hHeld => ?_)
            clear hK K
            try simp only [Act.put, List.getElem_toArray, List.getElem_cons_zero, List.getElem_cons_succ, List.setIfInBounds_toArray, List.set_cons_zero, List.set_cons_succ]
            refine wpAnyH_take (i := 4) (oi := _) (v := .bool false) rfl (by kernel_rfl) (by kernel_rfl) (by kernel_rfl) (fun _ _ _ h => h) (Or.inl ⟨by rfl, by intro w0 hSw; go_simp⟩) hHeld ?_
            try simp only [Act.put, List.getElem_toArray, List.getElem_cons_zero, List.getElem_cons_succ, List.setIfInBounds_toArray, List.set_cons_zero, List.set_cons_succ]
            refine wpAnyH_done (by kernel_rfl) ?_ _
            refine NoPanic.normal ?_
            go_wp2_with fail
            go_meet
            case rel => exact ⟨rfl, (unhide HG1).below hHeld hg1, Nat.lt_of_lt_of_le hg1 hHeld.size, (unhide H1).below hHeld (by omega), (unhide H2).below hHeld (by omega), h4.trans (hHeld.mono h4.size), Nat.le_trans h5 hHeld.size⟩
          exact AllReadyH.nil
        exact AllReadyH.nil

      case rest =>
      clear h4 h5 H1 H2 HG1 hg1 HG2 hg2
      obtain ⟨rfl, hgl1, hg1, hbase⟩ := hcut
      have HG1 := hide hgl1
      clear hgl1
      obtain ⟨h1, h2, h4, h5⟩ := hbase
      have H1 := hide h1
      have H2 := hide h2
      clear h1 h2
      go_wp2_with fail
      go_cut [31] (fun s31 w' => s31 = .bool false ∧ Lay w' g1 (joinF v o t 8) ∧ g1 < w'.heap.size ∧ Lay w' w.heap.size o ∧ Lay w' (w.heap.size + 1) t ∧ Below w.heap.size w w' ∧ w.heap.size + 2 ≤ w'.heap.size)
      case first =>
        refine wp_region_noPanic ?_
        refine wp_region_held_drew (S := fun w' => Below wc.heap.size wc w') (by kernel_rfl) (Below.refl _ _).drew (fun hHeld => ?_)
        refine wpAnyH_take (i := 0) (oi := _) (v := _) rfl (by kernel_rfl) (by kernel_rfl) (by kernel_rfl) (fun _ _ _ h => h) (yieldsIf_load_mid (by rfl) 23 _ rfl _ _ rfl [.pointer (o 0), .pointer (o 1), .pointer (o 2), .pointer (o 3), .pointer (o 4), .pointer (o 5), .pointer (o 6), .pointer (o 7), .pointer (o 8), .pointer (o 9), .pointer (o 10)] _ (fun _ h => row_in (unhide H1) (by omega) h) Try.underlying23 rfl size23) hHeld ?_
        try simp only [Act.put, List.getElem_toArray, List.getElem_cons_zero, List.getElem_cons_succ, List.setIfInBounds_toArray, List.set_cons_zero, List.set_cons_succ]
        refine wpAnyH_take (i := 2) (oi := _) (v := _) rfl (by kernel_rfl) (by kernel_rfl) (by kernel_rfl) (fun _ _ _ h => h) (yieldsIf_load_mid (by rfl) 23 _ rfl _ _ rfl [.pointer (o 0), .pointer (o 1), .pointer (o 2), .pointer (o 3), .pointer (o 4), .pointer (o 5), .pointer (o 6), .pointer (o 7), .pointer (o 8), .pointer (o 9), .pointer (o 10)] _ (fun _ h => row_in (unhide H1) (by omega) h) Try.underlying23 rfl size23) hHeld ?_
        try simp only [Act.put, List.getElem_toArray, List.getElem_cons_zero, List.getElem_cons_succ, List.setIfInBounds_toArray, List.set_cons_zero, List.set_cons_succ]
        refine wpAnyH_take (i := 6) (oi := _) (v := _) rfl (by kernel_rfl) (by kernel_rfl) (by kernel_rfl) (fun _ _ _ h => h) (yieldsIf_load_mid (by rfl) 23 _ rfl _ _ rfl [.pointer (o 0), .pointer (o 1), .pointer (o 2), .pointer (o 3), .pointer (o 4), .pointer (o 5), .pointer (o 6), .pointer (o 7), .pointer (o 8), .pointer (o 9), .pointer (o 10)] _ (fun _ h => row_in (unhide H1) (by omega) h) Try.underlying23 rfl size23) hHeld ?_
        try simp only [Act.put, List.getElem_toArray, List.getElem_cons_zero, List.getElem_cons_succ, List.setIfInBounds_toArray, List.set_cons_zero, List.set_cons_succ]
        refine wpAnyH_ready (rs := [1]) (by kernel_rfl) (by simp) ?_
        refine AllReadyH.cons (o := _) rfl (fun K hK => ?_) ?_
        · go_simp
          refine (checksOf_any _ _).mono ?_
          rintro e w1 ⟨rfl, hb1⟩
          go_wp2_with fail
          refine hK.out _ _ (keep_call hHeld hb1) (fun hHeld => ?_)
          clear hK K
          try simp only [Act.put, List.getElem_toArray, List.getElem_cons_zero, List.getElem_cons_succ, List.setIfInBounds_toArray, List.set_cons_zero, List.set_cons_succ]
          refine wpAnyH_ready (rs := [3]) (by kernel_rfl) (by simp) ?_
          refine AllReadyH.cons (o := _) rfl (fun K hK => ?_) ?_
          · go_simp
            refine (checksOf_any _ _).mono ?_
            rintro e w2 ⟨rfl, hb2⟩
            go_wp2_with fail
            refine hK.out _ _ (keep_call hHeld hb2) (fun hHeld => ?_)
            clear hK K
            try simp only [Act.put, List.getElem_toArray, List.getElem_cons_zero, List.getElem_cons_succ, List.setIfInBounds_toArray, List.set_cons_zero, List.set_cons_succ]
            refine wpAnyH_ready (rs := [4]) (by kernel_rfl) (by simp) ?_
            refine AllReadyH.cons (o := _) rfl (fun K hK => ?_) ?_
            · go_simp
              refine (zzjoin_is w v o o o (unhide E2) (unhide GO) (unhide GO) _ (by exact h4.trans (hHeld.mono h4.size))).mono ?_
              rintro e w3 ⟨rfl, hb3⟩
              go_wp2_with fail
              refine hK.out _ _ (keep_call hHeld hb3) (fun hHeld => ?_)
              clear hK K
              try simp only [Act.put, List.getElem_toArray, List.getElem_cons_zero, List.getElem_cons_succ, List.setIfInBounds_toArray, List.set_cons_zero, List.set_cons_succ]
              refine wpAnyH_ready (rs := [5]) (by kernel_rfl) (by simp) ?_
              refine AllReadyH.cons (o := _) rfl (fun K hK => ?_) ?_
              · go_simp
                refine (fieldsOf_any _ _).mono ?_
                rintro e w4 ⟨rfl, hb4⟩
                go_wp2_with fail
                refine hK.out _ _ (keep_call hHeld hb4) (fun hHeld => ?_)
                clear hK K
                try simp only [Act.put, List.getElem_toArray, List.getElem_cons_zero, List.getElem_cons_succ, List.setIfInBounds_toArray, List.set_cons_zero, List.set_cons_succ]
                refine wpAnyH_take (i := 7) (oi := _) (v := .bool false) rfl (by kernel_rfl) (by kernel_rfl) (by kernel_rfl) (fun _ _ _ h => h) (Or.inl ⟨by rfl, by intro w0 hSw; go_simp⟩) hHeld ?_
                try simp only [Act.put, List.getElem_toArray, List.getElem_cons_zero, List.getElem_cons_succ, List.setIfInBounds_toArray, List.set_cons_zero, List.set_cons_succ]
                refine wpAnyH_done (by kernel_rfl) ?_ _
                refine NoPanic.normal ?_
                go_wp2_with fail
                go_meet
                case rel => exact ⟨rfl, (unhide HG1).below hHeld hg1, Nat.lt_of_lt_of_le hg1 hHeld.size, (unhide H1).below hHeld (by omega), (unhide H2).below hHeld (by omega), h4.trans (hHeld.mono h4.size), Nat.le_trans h5 hHeld.size⟩
              exact AllReadyH.nil
            exact AllReadyH.nil
          exact AllReadyH.nil
        exact AllReadyH.nil

      case rest =>
      clear h4 h5 H1 H2 HG1 hg1
      obtain ⟨rfl, hgl1, hg1, hbase⟩ := hcut
      have HG1 := hide hgl1
      clear hgl1
      obtain ⟨h1, h2, h4, h5⟩ := hbase
      have H1 := hide h1
      have H2 := hide h2
      clear h1 h2
      go_upto_region 7 with fail
      go_cut [7] (fun s7 w' => ∃ g3, s7 = .pointer (some ⟨g3, 0, none⟩) ∧ Lay w' g3 (joinF v o t 8) ∧ g3 < w'.heap.size ∧ Lay w' w.heap.size o ∧ Lay w' (w.heap.size + 1) t ∧ Below w.heap.size w w' ∧ w.heap.size + 2 ≤ w'.heap.size)
      case first =>
        go_wp2_with (first | (refine wpList_load_mid rfl 26 _ rfl g1 0 rfl [.pointer (joinF v o t 8 0), .pointer (joinF v o t 8 1), .pointer (joinF v o t 8 2), .pointer (joinF v o t 8 3), .pointer (joinF v o t 8 4), .pointer (joinF v o t 8 5), .pointer (joinF v o t 8 6), .pointer (joinF v o t 8 7), .pointer (joinF v o t 8 8), .pointer (joinF v o t 8 9), .pointer (joinF v o t 8 10)] _ (unhide HG1).range Try.underlying26 rfl size26 ?_) | (go_at_call 8; refine (fieldsOf_any _ _).mono ?_; rintro e w1 ⟨rfl, hb⟩) | (refine wpList_store_mid rfl 23 _ _ rfl w1.heap.size 0 #[.pointer (joinF v o t 8 0), .pointer (joinF v o t 8 1), .pointer (joinF v o t 8 2), .pointer (joinF v o t 8 3), .pointer (joinF v o t 8 4), .pointer (joinF v o t 8 5), .pointer (joinF v o t 8 6), .pointer (joinF v o t 8 7), .pointer (joinF v o t 8 8), .pointer (joinF v o t 8 9), .pointer (joinF v o t 8 10)] rfl rfl (there_new w1 23) size23 (one11 _) ?_))
        go_meet
        case rel =>
          have hHeld := below_setCells w1.heap.size hb.size [.pointer (joinF v o t 8 0), .pointer (joinF v o t 8 1), .pointer (joinF v o t 8 2), .pointer (joinF v o t 8 3), .pointer (joinF v o t 8 4), .pointer (joinF v o t 8 5), .pointer (joinF v o t 8 6), .pointer (joinF v o t 8 7), .pointer (joinF v o t 8 8), .pointer (joinF v o t 8 9), .pointer (joinF v o t 8 10)] 0 (keep_alloc hb (.cells #[.pointer none, .pointer none, .pointer none, .pointer none, .pointer none, .pointer none, .pointer none, .pointer none, .pointer none, .pointer none, .pointer none] 23))
          exact ⟨w1.heap.size, rfl, Lay.set (joinF v o t 8) (there_new w1 23), lay_lt (Lay.set (joinF v o t 8) (there_new w1 23)), (unhide H1).below hHeld (by omega), (unhide H2).below hHeld (by omega), h4.trans (hHeld.mono h4.size), Nat.le_trans h5 hHeld.size⟩
      case rest =>
      clear h4 h5 H1 H2 HG1 hg1
      obtain ⟨g3, rfl, hgl3, hg3, hbase⟩ := hcut
      have HG3 := hide hgl3
      clear hgl3
      obtain ⟨h1, h2, h4, h5⟩ := hbase
      have H1 := hide h1
      have H2 := hide h2
      clear h1 h2
      go_wp2_with fail
      go_cut [8] (fun s8 w' => ∃ g4, s8 = .pointer (some ⟨g4, 0, none⟩) ∧ Lay w' g4 (joinF v t o 8) ∧ Lay w' g3 (joinF v o t 8) ∧ Below w.heap.size w w')
      case first =>
        refine wp_region_noPanic ?_
        refine wp_region_held_drew (S := fun w' => Below wc.heap.size wc w') (by kernel_rfl) (Below.refl _ _).drew (fun hHeld => ?_)
        refine wpAnyH_take (i := 0) (oi := _) (v := _) rfl (by kernel_rfl) (by kernel_rfl) (by kernel_rfl) (fun _ _ _ h => h) (yieldsIf_load_mid (by rfl) 23 _ rfl _ _ rfl [.pointer (t 0), .pointer (t 1), .pointer (t 2), .pointer (t 3), .pointer (t 4), .pointer (t 5), .pointer (t 6), .pointer (t 7), .pointer (t 8), .pointer (t 9), .pointer (t 10)] _ (fun _ h => row_in (unhide H2) (by omega) h) Try.underlying23 rfl size23) hHeld ?_
        try simp only [Act.put, List.getElem_toArray, List.getElem_cons_zero, List.getElem_cons_succ, List.setIfInBounds_toArray, List.set_cons_zero, List.set_cons_succ]
        refine wpAnyH_take (i := 2) (oi := _) (v := _) rfl (by kernel_rfl) (by kernel_rfl) (by kernel_rfl) (fun _ _ _ h => h) (yieldsIf_load_mid (by rfl) 23 _ rfl _ _ rfl [.pointer (o 0), .pointer (o 1), .pointer (o 2), .pointer (o 3), .pointer (o 4), .pointer (o 5), .pointer (o 6), .pointer (o 7), .pointer (o 8), .pointer (o 9), .pointer (o 10)] _ (fun _ h => row_in (unhide H1) (by omega) h) Try.underlying23 rfl size23) hHeld ?_
        try simp only [Act.put, List.getElem_toArray, List.getElem_cons_zero, List.getElem_cons_succ, List.setIfInBounds_toArray, List.set_cons_zero, List.set_cons_succ]
        refine wpAnyH_ready (rs := [1, 6]) (by kernel_rfl) (by simp) ?_
        refine AllReadyH.cons (o := _) rfl (fun K hK => ?_) ?_
        · go_simp
          refine (checksOf_any _ _).mono ?_
          rintro e w1 ⟨rfl, hb1⟩
          go_wp2_with fail
          refine hK.out _ _ (keep_call hHeld hb1) (fun hHeld => ?_)
          clear hK K
          try simp only [Act.put, List.getElem_toArray, List.getElem_cons_zero, List.getElem_cons_succ, List.setIfInBounds_toArray, List.set_cons_zero, List.set_cons_succ]
          refine wpAnyH_ready (rs := [3, 6]) (by kernel_rfl) (by simp) ?_
          refine AllReadyH.cons (o := _) rfl (fun K hK => ?_) ?_
          · go_simp
            refine (checksOf_any _ _).mono ?_
            rintro e w2 ⟨rfl, hb2⟩
            go_wp2_with fail
            refine hK.out _ _ (keep_call hHeld hb2) (fun hHeld => ?_)
            clear hK K
            try simp only [Act.put, List.getElem_toArray, List.getElem_cons_zero, List.getElem_cons_succ, List.setIfInBounds_toArray, List.set_cons_zero, List.set_cons_succ]
            refine wpAnyH_ready (rs := [4, 6]) (by kernel_rfl) (by simp) ?_
            refine AllReadyH.cons (o := _) rfl (fun K hK => ?_) ?_
            · go_simp
              refine (zzjoin_at w v t o (unhide GT) (unhide GO) _ (by exact h4.trans (hHeld.mono h4.size))).mono ?_
              rintro e w3 ⟨rfl, hb3⟩
              go_wp2_with fail
              refine hK.out _ _ (keep_call hHeld hb3) (fun hHeld => ?_)
              clear hK K
              try simp only [Act.put, List.getElem_toArray, List.getElem_cons_zero, List.getElem_cons_succ, List.setIfInBounds_toArray, List.set_cons_zero, List.set_cons_succ]
              refine wpAnyH_ready (rs := [5, 6]) (by kernel_rfl) (by simp) ?_
              refine AllReadyH.cons (o := _) rfl (fun K hK => ?_) ?_
              · go_simp
                refine (fieldsOf_any _ _).mono ?_
                rintro e w4 ⟨rfl, hb4⟩
                go_wp2_with fail
                refine hK.out _ _ (keep_call hHeld hb4) (fun hHeld => ?_)
                clear hK K
                try simp only [Act.put, List.getElem_toArray, List.getElem_cons_zero, List.getElem_cons_succ, List.setIfInBounds_toArray, List.set_cons_zero, List.set_cons_succ]
                refine wpAnyH_ready (rs := [6]) (by kernel_rfl) (by simp) ?_
                refine AllReadyH.cons (o := _) rfl (fun K hK => ?_) ?_
                · go_simp
                  have hg := hHeld.size
                  refine hK.out _ _ (keep_alloc hHeld _) (fun hHeld => ?_)
                  clear hK K
                  have hth := there_new w4 23
                  try simp only [Act.put, List.getElem_toArray, List.getElem_cons_zero, List.getElem_cons_succ, List.setIfInBounds_toArray, List.set_cons_zero, List.set_cons_succ]
                  refine wpAnyH_ready (rs := [7]) (by kernel_rfl) (by simp) ?_
                  refine AllReadyH.cons (o := _) rfl (fun K hK => ?_) ?_
                  · rw [if_pos (by rfl)]
                    refine wp_store_mid 23 _ _ rfl w4.heap.size 0 #[.pointer (joinF v t o 8 0), .pointer (joinF v t o 8 1), .pointer (joinF v t o 8 2), .pointer (joinF v t o 8 3), .pointer (joinF v t o 8 4), .pointer (joinF v t o 8 5), .pointer (joinF v t o 8 6), .pointer (joinF v t o 8 7), .pointer (joinF v t o 8 8), .pointer (joinF v t o 8 9), .pointer (joinF v t o 8 10)] rfl rfl hth size23 (one11 _) ?_
                    try simp only [Act.put, List.getElem_toArray, List.getElem_cons_zero, List.getElem_cons_succ, List.setIfInBounds_toArray, List.set_cons_zero, List.set_cons_succ]
                    refine hK.out _ _ (keep_store hHeld hg _ _) (fun hHeld => ?_)
                    clear hK K
                    refine wpAnyH_done (by kernel_rfl) ?_ _
                    refine NoPanic.normal ?_
                    go_wp2_with fail
                    go_meet
                    case rel => exact ⟨w4.heap.size, rfl, Lay.set (joinF v t o 8) hth, (unhide HG3).below hHeld hg3, h4.trans (hHeld.mono h4.size)⟩
                  exact AllReadyH.nil
                exact AllReadyH.nil
              refine AllReadyH.cons (o := _) rfl (fun K hK => ?_) ?_
              · go_simp
                have hg := hHeld.size
                refine hK.out _ _ (keep_alloc hHeld _) (fun hHeld => ?_)
                clear hK K
                have hth := there_new w3 23
                try simp only [Act.put, List.getElem_toArray, List.getElem_cons_zero, List.getElem_cons_succ, List.setIfInBounds_toArray, List.set_cons_zero, List.set_cons_succ]
                refine wpAnyH_ready (rs := [5]) (by kernel_rfl) (by simp) ?_
                refine AllReadyH.cons (o := _) rfl (fun K hK => ?_) ?_
                · go_simp
                  refine (fieldsOf_any _ _).mono ?_
                  rintro e w5 ⟨rfl, hb5⟩
                  go_wp2_with fail
                  refine hK.out _ _ (keep_call hHeld hb5) (fun hHeld => ?_)
                  clear hK K
                  have hth := there_below hth hb5
                  try simp only [Act.put, List.getElem_toArray, List.getElem_cons_zero, List.getElem_cons_succ, List.setIfInBounds_toArray, List.set_cons_zero, List.set_cons_succ]
                  refine wpAnyH_ready (rs := [7]) (by kernel_rfl) (by simp) ?_
                  refine AllReadyH.cons (o := _) rfl (fun K hK => ?_) ?_
                  · rw [if_pos (by rfl)]
                    refine wp_store_mid 23 _ _ rfl w3.heap.size 0 #[.pointer (joinF v t o 8 0), .pointer (joinF v t o 8 1), .pointer (joinF v t o 8 2), .pointer (joinF v t o 8 3), .pointer (joinF v t o 8 4), .pointer (joinF v t o 8 5), .pointer (joinF v t o 8 6), .pointer (joinF v t o 8 7), .pointer (joinF v t o 8 8), .pointer (joinF v t o 8 9), .pointer (joinF v t o 8 10)] rfl rfl hth size23 (one11 _) ?_
                    try simp only [Act.put, List.getElem_toArray, List.getElem_cons_zero, List.getElem_cons_succ, List.setIfInBounds_toArray, List.set_cons_zero, List.set_cons_succ]
                    refine hK.out _ _ (keep_store hHeld hg _ _) (fun hHeld => ?_)
                    clear hK K
                    refine wpAnyH_done (by kernel_rfl) ?_ _
                    refine NoPanic.normal ?_
                    go_wp2_with fail
                    go_meet
                    case rel => exact ⟨w3.heap.size, rfl, Lay.set (joinF v t o 8) hth, (unhide HG3).below hHeld hg3, h4.trans (hHeld.mono h4.size)⟩
                  exact AllReadyH.nil
                exact AllReadyH.nil
              exact AllReadyH.nil
            refine AllReadyH.cons (o := _) rfl (fun K hK => ?_) ?_
            · go_simp
              have hg := hHeld.size
              refine hK.out _ _ (keep_alloc hHeld _) (fun hHeld => ?_)
              clear hK K
              have hth := there_new w2 23
              try simp only [Act.put, List.getElem_toArray, List.getElem_cons_zero, List.getElem_cons_succ, List.setIfInBounds_toArray, List.set_cons_zero, List.set_cons_succ]
              refine wpAnyH_ready (rs := [4]) (by kernel_rfl) (by simp) ?_
              refine AllReadyH.cons (o := _) rfl (fun K hK => ?_) ?_
              · go_simp
                refine (zzjoin_at w v t o (unhide GT) (unhide GO) _ (by exact h4.trans (hHeld.mono h4.size))).mono ?_
                rintro e w6 ⟨rfl, hb6⟩
                go_wp2_with fail
                refine hK.out _ _ (keep_call hHeld hb6) (fun hHeld => ?_)
                clear hK K
                have hth := there_below hth hb6
                try simp only [Act.put, List.getElem_toArray, List.getElem_cons_zero, List.getElem_cons_succ, List.setIfInBounds_toArray, List.set_cons_zero, List.set_cons_succ]
                refine wpAnyH_ready (rs := [5]) (by kernel_rfl) (by simp) ?_
                refine AllReadyH.cons (o := _) rfl (fun K hK => ?_) ?_
                · go_simp
                  refine (fieldsOf_any _ _).mono ?_
                  rintro e w7 ⟨rfl, hb7⟩
                  go_wp2_with fail
                  refine hK.out _ _ (keep_call hHeld hb7) (fun hHeld => ?_)
                  clear hK K
                  have hth := there_below hth hb7
                  try simp only [Act.put, List.getElem_toArray, List.getElem_cons_zero, List.getElem_cons_succ, List.setIfInBounds_toArray, List.set_cons_zero, List.set_cons_succ]
                  refine wpAnyH_ready (rs := [7]) (by kernel_rfl) (by simp) ?_
                  refine AllReadyH.cons (o := _) rfl (fun K hK => ?_) ?_
                  · rw [if_pos (by rfl)]
                    refine wp_store_mid 23 _ _ rfl w2.heap.size 0 #[.pointer (joinF v t o 8 0), .pointer (joinF v t o 8 1), .pointer (joinF v t o 8 2), .pointer (joinF v t o 8 3), .pointer (joinF v t o 8 4), .pointer (joinF v t o 8 5), .pointer (joinF v t o 8 6), .pointer (joinF v t o 8 7), .pointer (joinF v t o 8 8), .pointer (joinF v t o 8 9), .pointer (joinF v t o 8 10)] rfl rfl hth size23 (one11 _) ?_
                    try simp only [Act.put, List.getElem_toArray, List.getElem_cons_zero, List.getElem_cons_succ, List.setIfInBounds_toArray, List.set_cons_zero, List.set_cons_succ]
                    refine hK.out _ _ (keep_store hHeld hg _ _) (fun hHeld => ?_)
                    clear hK K
                    refine wpAnyH_done (by kernel_rfl) ?_ _
                    refine NoPanic.normal ?_
                    go_wp2_with fail
                    go_meet
                    case rel => exact ⟨w2.heap.size, rfl, Lay.set (joinF v t o 8) hth, (unhide HG3).below hHeld hg3, h4.trans (hHeld.mono h4.size)⟩
                  exact AllReadyH.nil
                exact AllReadyH.nil
              exact AllReadyH.nil
            exact AllReadyH.nil
          refine AllReadyH.cons (o := _) rfl (fun K hK => ?_) ?_
          · go_simp
            have hg := hHeld.size
            refine hK.out _ _ (keep_alloc hHeld _) (fun hHeld => ?_)
            clear hK K
            have hth := there_new w1 23
            try simp only [Act.put, List.getElem_toArray, List.getElem_cons_zero, List.getElem_cons_succ, List.setIfInBounds_toArray, List.set_cons_zero, List.set_cons_succ]
            refine wpAnyH_ready (rs := [3]) (by kernel_rfl) (by simp) ?_
            refine AllReadyH.cons (o := _) rfl (fun K hK => ?_) ?_
            · go_simp
              refine (checksOf_any _ _).mono ?_
              rintro e w8 ⟨rfl, hb8⟩
              go_wp2_with fail
              refine hK.out _ _ (keep_call hHeld hb8) (fun hHeld => ?_)
              clear hK K
              have hth := there_below hth hb8
              try simp only [Act.put, List.getElem_toArray, List.getElem_cons_zero, List.getElem_cons_succ, List.setIfInBounds_toArray, List.set_cons_zero, List.set_cons_succ]
              refine wpAnyH_ready (rs := [4]) (by kernel_rfl) (by simp) ?_
              refine AllReadyH.cons (o := _) rfl (fun K hK => ?_) ?_
              · go_simp
                refine (zzjoin_at w v t o (unhide GT) (unhide GO) _ (by exact h4.trans (hHeld.mono h4.size))).mono ?_
                rintro e w9 ⟨rfl, hb9⟩
                go_wp2_with fail
                refine hK.out _ _ (keep_call hHeld hb9) (fun hHeld => ?_)
                clear hK K
                have hth := there_below hth hb9
                try simp only [Act.put, List.getElem_toArray, List.getElem_cons_zero, List.getElem_cons_succ, List.setIfInBounds_toArray, List.set_cons_zero, List.set_cons_succ]
                refine wpAnyH_ready (rs := [5]) (by kernel_rfl) (by simp) ?_
                refine AllReadyH.cons (o := _) rfl (fun K hK => ?_) ?_
                · go_simp
                  refine (fieldsOf_any _ _).mono ?_
                  rintro e w10 ⟨rfl, hb10⟩
                  go_wp2_with fail
                  refine hK.out _ _ (keep_call hHeld hb10) (fun hHeld => ?_)
                  clear hK K
                  have hth := there_below hth hb10
                  try simp only [Act.put, List.getElem_toArray, List.getElem_cons_zero, List.getElem_cons_succ, List.setIfInBounds_toArray, List.set_cons_zero, List.set_cons_succ]
                  refine wpAnyH_ready (rs := [7]) (by kernel_rfl) (by simp) ?_
                  refine AllReadyH.cons (o := _) rfl (fun K hK => ?_) ?_
                  · rw [if_pos (by rfl)]
                    refine wp_store_mid 23 _ _ rfl w1.heap.size 0 #[.pointer (joinF v t o 8 0), .pointer (joinF v t o 8 1), .pointer (joinF v t o 8 2), .pointer (joinF v t o 8 3), .pointer (joinF v t o 8 4), .pointer (joinF v t o 8 5), .pointer (joinF v t o 8 6), .pointer (joinF v t o 8 7), .pointer (joinF v t o 8 8), .pointer (joinF v t o 8 9), .pointer (joinF v t o 8 10)] rfl rfl hth size23 (one11 _) ?_
                    try simp only [Act.put, List.getElem_toArray, List.getElem_cons_zero, List.getElem_cons_succ, List.setIfInBounds_toArray, List.set_cons_zero, List.set_cons_succ]
                    refine hK.out _ _ (keep_store hHeld hg _ _) (fun hHeld => ?_)
                    clear hK K
                    refine wpAnyH_done (by kernel_rfl) ?_ _
                    refine NoPanic.normal ?_
                    go_wp2_with fail
                    go_meet
                    case rel => exact ⟨w1.heap.size, rfl, Lay.set (joinF v t o 8) hth, (unhide HG3).below hHeld hg3, h4.trans (hHeld.mono h4.size)⟩
                  exact AllReadyH.nil
                exact AllReadyH.nil
              exact AllReadyH.nil
            exact AllReadyH.nil
          exact AllReadyH.nil
        refine AllReadyH.cons (o := _) rfl (fun K hK => ?_) ?_
        · go_simp
          have hg := hHeld.size
          refine hK.out _ _ (keep_alloc hHeld _) (fun hHeld => ?_)
          clear hK K
          have hth : (wc.alloc (.cells #[.pointer none, .pointer none, .pointer none, .pointer none, .pointer none, .pointer none, .pointer none, .pointer none, .pointer none, .pointer none, .pointer none] 23)).drew.there wc.heap.size 0 11 := there_new wc 23
          try simp only [Act.put, List.getElem_toArray, List.getElem_cons_zero, List.getElem_cons_succ, List.setIfInBounds_toArray, List.set_cons_zero, List.set_cons_succ]
          refine wpAnyH_ready (rs := [1]) (by kernel_rfl) (by simp) ?_
          refine AllReadyH.cons (o := _) rfl (fun K hK => ?_) ?_
          · go_simp
            refine (checksOf_any _ _).mono ?_
            rintro e w11 ⟨rfl, hb11⟩
            go_wp2_with fail
            refine hK.out _ _ (keep_call hHeld hb11) (fun hHeld => ?_)
            clear hK K
            have hth := there_below hth hb11
            try simp only [Act.put, List.getElem_toArray, List.getElem_cons_zero, List.getElem_cons_succ, List.setIfInBounds_toArray, List.set_cons_zero, List.set_cons_succ]
            refine wpAnyH_ready (rs := [3]) (by kernel_rfl) (by simp) ?_
            refine AllReadyH.cons (o := _) rfl (fun K hK => ?_) ?_
            · go_simp
              refine (checksOf_any _ _).mono ?_
              rintro e w12 ⟨rfl, hb12⟩
              go_wp2_with fail
              refine hK.out _ _ (keep_call hHeld hb12) (fun hHeld => ?_)
              clear hK K
              have hth := there_below hth hb12
              try simp only [Act.put, List.getElem_toArray, List.getElem_cons_zero, List.getElem_cons_succ, List.setIfInBounds_toArray, List.set_cons_zero, List.set_cons_succ]
              refine wpAnyH_ready (rs := [4]) (by kernel_rfl) (by simp) ?_
              refine AllReadyH.cons (o := _) rfl (fun K hK => ?_) ?_
              · go_simp
                refine (zzjoin_at w v t o (unhide GT) (unhide GO) _ (by exact h4.trans (hHeld.mono h4.size))).mono ?_
                rintro e w13 ⟨rfl, hb13⟩
                go_wp2_with fail
                refine hK.out _ _ (keep_call hHeld hb13) (fun hHeld => ?_)
                clear hK K
                have hth := there_below hth hb13
                try simp only [Act.put, List.getElem_toArray, List.getElem_cons_zero, List.getElem_cons_succ, List.setIfInBounds_toArray, List.set_cons_zero, List.set_cons_succ]
                refine wpAnyH_ready (rs := [5]) (by kernel_rfl) (by simp) ?_
                refine AllReadyH.cons (o := _) rfl (fun K hK => ?_) ?_
                · go_simp
                  refine (fieldsOf_any _ _).mono ?_
                  rintro e w14 ⟨rfl, hb14⟩
                  go_wp2_with fail
                  refine hK.out _ _ (keep_call hHeld hb14) (fun hHeld => ?_)
                  clear hK K
                  have hth := there_below hth hb14
                  try simp only [Act.put, List.getElem_toArray, List.getElem_cons_zero, List.getElem_cons_succ, List.setIfInBounds_toArray, List.set_cons_zero, List.set_cons_succ]
                  refine wpAnyH_ready (rs := [7]) (by kernel_rfl) (by simp) ?_
                  refine AllReadyH.cons (o := _) rfl (fun K hK => ?_) ?_
                  · rw [if_pos (by rfl)]
                    refine wp_store_mid 23 _ _ rfl wc.heap.size 0 #[.pointer (joinF v t o 8 0), .pointer (joinF v t o 8 1), .pointer (joinF v t o 8 2), .pointer (joinF v t o 8 3), .pointer (joinF v t o 8 4), .pointer (joinF v t o 8 5), .pointer (joinF v t o 8 6), .pointer (joinF v t o 8 7), .pointer (joinF v t o 8 8), .pointer (joinF v t o 8 9), .pointer (joinF v t o 8 10)] rfl rfl hth size23 (one11 _) ?_
                    try simp only [Act.put, List.getElem_toArray, List.getElem_cons_zero, List.getElem_cons_succ, List.setIfInBounds_toArray, List.set_cons_zero, List.set_cons_succ]
                    refine hK.out _ _ (keep_store hHeld hg _ _) (fun hHeld => ?_)
                    clear hK K
                    refine wpAnyH_done (by kernel_rfl) ?_ _
                    refine NoPanic.normal ?_
                    go_wp2_with fail
                    go_meet
                    case rel => exact ⟨wc.heap.size, rfl, Lay.set (joinF v t o 8) hth, (unhide HG3).below hHeld hg3, h4.trans (hHeld.mono h4.size)⟩
                  exact AllReadyH.nil
                exact AllReadyH.nil
              exact AllReadyH.nil
            exact AllReadyH.nil
          exact AllReadyH.nil
        exact AllReadyH.nil

      case rest =>
      clear h4 h5 H1 H2 HG3 hg3
      obtain ⟨g4, rfl, hgl4, hgl3, h4⟩ := hcut
      go_wp2_with fail
      go_loopw [9] (fun i wr => ∃ k : Nat, k ≤ 8 ∧ i = .int .i64 k ∧ Hid (Lay wr g3 (joinF v o t 8) ∧ Lay wr g4 (joinF v t o 8) ∧ Below w.heap.size w wr)) (fun i _ => 8 - (intOf i).toNat)
      case atStart => exact ⟨0, Nat.zero_le _, rfl, hgl3, hgl4, h4⟩
      case round =>
        clear hgl3 hgl4 h4
        obtain ⟨k, hk, rfl, HJ⟩ := hrel
        by_cases hlt : k < 8
        · have hlt' : (k : Int) < 8 := by omega
          have hlt'' : (k : Int) < 11 := by omega
          have c3 := HJ.out.1 k (by omega)
          have c4 := HJ.out.2.1 k (by omega)
          have k3 : ∀ a, joinF v o t 8 k = some a → wr.cell? a = some (.bool (v a)) := fun a ha => ((unhide GJ).below HJ.out.2.2 k (by omega) a ha).2
          have k4 : ∀ a, joinF v t o 8 k = some a → wr.cell? a = some (.bool (v a)) := fun a ha => ((unhide GK).below HJ.out.2.2 k (by omega) a ha).2
          have he := cls_join v o t k hlt
          generalize joinF v o t 8 k = x at c3 k3 he
          generalize joinF v t o 8 k = y at c4 k4 he
          have hne : (cls v x != cls v y) = false := by rw [he]; simp
          have K3 := hide k3
          have K4 := hide k4
          clear k3 k4 he
          go_wp2_with fail
          go_quiet ((first | (go_at_call_of 11 (Value.pointer x); exact Calls.quiet_of_same (cls_any v x _ (unhide K3))) | (go_at_call_of 11 (Value.pointer y); exact Calls.quiet_of_same (cls_any v y _ (unhide K4)))))
          go_wp2
          go_roundw
          case rel => exact ⟨k + 1, by omega, by go_num, HJ.out.1, HJ.out.2.1, below_drewN HJ.out.2.2 _⟩
          case measure => simp [intOf]; omega
        · have : k = 8 := by omega
          subst this
          go_wp2
          go_ret
          exact ⟨rfl, HJ.out.2.2⟩
end Go.Proofs.Qxb6601817a.Join
