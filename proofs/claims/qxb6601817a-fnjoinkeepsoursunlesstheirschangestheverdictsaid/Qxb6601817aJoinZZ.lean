/- Qxb6601817a: the walk of ZZJoin. -/
import Derived.Test.Qxb6601817aJoinWalks
import Derived.Deep.MidRow
namespace Go.Proofs.Qxb6601817a.Join
open Go.ChangeShapes Go.WideShapes Go.ChangeAt Go.RowKit

theorem hide {p : Prop} (h : p) : Hid p := h
theorem unhide {p : Prop} (h : Hid p) : p := h

theorem size26 : (Try.prog.info? 26).map (·.size) = some 11 := by kernel_rfl
theorem size23 : (Try.prog.info? 23).map (·.size) = some 11 := by kernel_rfl

theorem cell11 (w : World) (g : Nat) (f : Nat → Option Addr) (h : Lay w g f) : w.cell? ⟨g, 0, none⟩ = some (.pointer (f 0)) ∧ w.cell? ⟨g, 1, none⟩ = some (.pointer (f 1)) ∧ w.cell? ⟨g, 2, none⟩ = some (.pointer (f 2)) ∧ w.cell? ⟨g, 3, none⟩ = some (.pointer (f 3)) ∧ w.cell? ⟨g, 4, none⟩ = some (.pointer (f 4)) ∧ w.cell? ⟨g, 5, none⟩ = some (.pointer (f 5)) ∧ w.cell? ⟨g, 6, none⟩ = some (.pointer (f 6)) ∧ w.cell? ⟨g, 7, none⟩ = some (.pointer (f 7)) ∧ w.cell? ⟨g, 8, none⟩ = some (.pointer (f 8)) ∧ w.cell? ⟨g, 9, none⟩ = some (.pointer (f 9)) ∧ w.cell? ⟨g, 10, none⟩ = some (.pointer (f 10)) :=
  ⟨h 0 (by omega), h 1 (by omega), h 2 (by omega), h 3 (by omega), h 4 (by omega), h 5 (by omega), h 6 (by omega), h 7 (by omega), h 8 (by omega), h 9 (by omega), h 10 (by omega)⟩

/-- Eleven cells are there in block g, and may be written. -/
theorem there_of {w : World} {g : Nat} {f : Nat → Option Addr} (h : Lay w g f) (hf : ∀ j, j < 11 → w.frozen? ⟨g, j, none⟩ = false) : w.there g 0 11 := fun j hj => by
  rw [Nat.zero_add]
  exact ⟨by rw [h j hj]; rfl, hf j hj⟩

theorem Lay.set {w : World} {g : Nat} (f : Nat → Option Addr) (h : w.there g 0 11) : Lay (w.setCells g 0 [.pointer (f 0), .pointer (f 1), .pointer (f 2), .pointer (f 3), .pointer (f 4), .pointer (f 5), .pointer (f 6), .pointer (f 7), .pointer (f 8), .pointer (f 9), .pointer (f 10)]) g f := fun j hj => by
  have hr := World.rangeAt_setCells_same w g 0 [.pointer (f 0), .pointer (f 1), .pointer (f 2), .pointer (f 3), .pointer (f 4), .pointer (f 5), .pointer (f 6), .pointer (f 7), .pointer (f 8), .pointer (f 9), .pointer (f 10)] h
  have := hr j (.pointer (f j)) (by
    match j, hj with
    | 0, _ => rfl
    | 1, _ => rfl
    | 2, _ => rfl
    | 3, _ => rfl
    | 4, _ => rfl
    | 5, _ => rfl
    | 6, _ => rfl
    | 7, _ => rfl
    | 8, _ => rfl
    | 9, _ => rfl
    | 10, _ => rfl)
  rw [Nat.zero_add] at this
  exact this

theorem below_setCells {B : Nat} {a : World} (g : Nat) (hg : B ≤ g) : ∀ (vs : List Value) (o : Nat) {w : World} (_ : Below B a w), Below B a (w.setCells g o vs)
  | [], _, _, h => h
  | u :: vs, o, _, h => below_setCells g hg vs (o + 1) (h.setCell (p := ⟨g, o, none⟩) hg u)

theorem one11 (f : Nat → Option Addr) : (#[.pointer (f 0), .pointer (f 1), .pointer (f 2), .pointer (f 3), .pointer (f 4), .pointer (f 5), .pointer (f 6), .pointer (f 7), .pointer (f 8), .pointer (f 9), .pointer (f 10)] : Array Value).all (·.oneCell') = true := all_oneCell_toArray (cs := [.pointer (f 0), .pointer (f 1), .pointer (f 2), .pointer (f 3), .pointer (f 4), .pointer (f 5), .pointer (f 6), .pointer (f 7), .pointer (f 8), .pointer (f 9), .pointer (f 10)]) (by
  intro u hu
  simp only [List.mem_cons, List.not_mem_nil, or_false] at hu
  rcases hu with rfl | rfl | rfl | rfl | rfl | rfl | rfl | rfl | rfl | rfl | rfl <;> rfl)

/-- What join leaves, below its block b and of the blocks above it. -/
theorem JR.below {v : Addr → Bool} {o t : Nat → Option Addr} {b : Nat} {w : World} {k : Nat} {wr : World} (h : JR v o t b w k wr) (hb : b < w.heap.size) : Below b w wr :=
  ⟨h.os, h.tape, h.output, by have := h.size; omega, fun i hi => h.old i (by omega) (by omega)⟩

set_option maxRecDepth 100000 in
set_option maxHeartbeats 1000000 in
theorem zzjoin_any (B : Nat) (v : Addr → Bool) (o t : Nat → Option Addr) (w : World) (hB : B ≤ w.heap.size)
    (go : Good w B v o) (gt : Good w B v t) :
    Calls Try.prog 9 #[.agg #[.pointer (o 0), .pointer (o 1), .pointer (o 2), .pointer (o 3), .pointer (o 4), .pointer (o 5), .pointer (o 6), .pointer (o 7), .pointer (o 8), .pointer (o 9), .pointer (o 10)], .agg #[.pointer (t 0), .pointer (t 1), .pointer (t 2), .pointer (t 3), .pointer (t 4), .pointer (t 5), .pointer (t 6), .pointer (t 7), .pointer (t 8), .pointer (t 9), .pointer (t 10)]] w fun e w' => e = .returned (.agg #[.pointer (joinF v o t 8 0), .pointer (joinF v o t 8 1), .pointer (joinF v o t 8 2), .pointer (joinF v o t 8 3), .pointer (joinF v o t 8 4), .pointer (joinF v o t 8 5), .pointer (joinF v o t 8 6), .pointer (joinF v o t 8 7), .pointer (joinF v o t 8 8), .pointer (joinF v o t 8 9), .pointer (joinF v o t 8 10)]) ∧ Below w.heap.size w w' := by
  go_enter Try.func9, Try.ntmps9
  go_wp2_with fail
  have s1 : ∀ o1 : Obj, (w.alloc o1).heap.size = w.heap.size + 1 := fun o1 => by simp
  have s2 : ∀ o1 o2 : Obj, ((w.alloc o1).alloc o2).heap.size = w.heap.size + 1 + 1 := fun o1 o2 => by simp
  have s3 : ∀ o1 o2 o3 : Obj, (((w.alloc o1).alloc o2).alloc o3).heap.size = w.heap.size + 1 + 1 + 1 := fun o1 o2 o3 => by simp
  have hbl : ∀ o1 o2 o3 : Obj, Below w.heap.size w (((w.alloc o1).alloc o2).alloc o3) := fun o1 o2 o3 => (((Below.refl _ _).alloc (Nat.le_refl _) _).alloc (by rw [s1]; omega) _).alloc (by rw [s2]; omega) _
  have S1 := hide s1
  have S2 := hide s2
  have S3 := hide s3
  have HB := hide hbl
  clear s1 s2 s3 hbl
  refine (join_any w.heap.size B hB v o t _ ?h1 ?h2 ?h3 ?h4 ?h5).mono ?h6
  case h1 => rw [unhide S3]; omega
  case h2 => exact ((Lay.new w o 26).alloc (by rw [unhide S1]; omega) _).alloc (by rw [unhide S2]; omega) _
  case h3 =>
    intro j hj
    rw [World.frozen?_alloc_old _ _ ⟨w.heap.size, j, none⟩ (by rw [unhide S2]; show w.heap.size ≠ _; omega), World.frozen?_alloc_old _ _ ⟨w.heap.size, j, none⟩ (by rw [unhide S1]; show w.heap.size ≠ _; omega), World.frozen?_alloc_new]
  case h4 => exact go.below ((unhide HB _ _ _).mono hB)
  case h5 => exact gt.below ((unhide HB _ _ _).mono hB)
  case h6 =>
    rintro e w1 ⟨rfl, hj⟩
    have l1 := hj.ours
    obtain ⟨a0, a1, a2, a3, a4, a5, a6, a7, a8, a9, a10⟩ := cell11 _ _ _ l1
    clear l1
    have hlt : w.heap.size < (((w.alloc (.cells #[.pointer (o 0), .pointer (o 1), .pointer (o 2), .pointer (o 3), .pointer (o 4), .pointer (o 5), .pointer (o 6), .pointer (o 7), .pointer (o 8), .pointer (o 9), .pointer (o 10)] 26)).alloc (.cells #[.pointer (t 0), .pointer (t 1), .pointer (t 2), .pointer (t 3), .pointer (t 4), .pointer (t 5), .pointer (t 6), .pointer (t 7), .pointer (t 8), .pointer (t 9), .pointer (t 10)] 26)).alloc (.cells #[.pointer none, .pointer none, .pointer none, .pointer none, .pointer none, .pointer none, .pointer none, .pointer none, .pointer none, .pointer none, .pointer none] 26)).heap.size := by rw [unhide S3]; omega
    have hbw : Below w.heap.size w w1 := (unhide HB _ _ _).trans (hj.below hlt)
    have hth : w1.there (w.heap.size + 1 + 1) 0 11 := by
      have hblk := hj.old (w.heap.size + 1 + 1) (by rw [unhide S3]; omega) (by omega)
      have hl := Lay.new ((w.alloc (.cells #[.pointer (o 0), .pointer (o 1), .pointer (o 2), .pointer (o 3), .pointer (o 4), .pointer (o 5), .pointer (o 6), .pointer (o 7), .pointer (o 8), .pointer (o 9), .pointer (o 10)] 26)).alloc (.cells #[.pointer (t 0), .pointer (t 1), .pointer (t 2), .pointer (t 3), .pointer (t 4), .pointer (t 5), .pointer (t 6), .pointer (t 7), .pointer (t 8), .pointer (t 9), .pointer (t 10)] 26)) (fun _ => Option.none) 26
      rw [unhide S2] at hl
      refine there_of (f := fun _ => Option.none) (fun j hj => ?_) (fun j hj => ?_)
      · rw [World.cell?_of_block (w := ((w.alloc (.cells #[.pointer (o 0), .pointer (o 1), .pointer (o 2), .pointer (o 3), .pointer (o 4), .pointer (o 5), .pointer (o 6), .pointer (o 7), .pointer (o 8), .pointer (o 9), .pointer (o 10)] 26)).alloc (.cells #[.pointer (t 0), .pointer (t 1), .pointer (t 2), .pointer (t 3), .pointer (t 4), .pointer (t 5), .pointer (t 6), .pointer (t 7), .pointer (t 8), .pointer (t 9), .pointer (t 10)] 26)).alloc (.cells #[.pointer none, .pointer none, .pointer none, .pointer none, .pointer none, .pointer none, .pointer none, .pointer none, .pointer none, .pointer none, .pointer none] 26)) hblk]
        exact hl j hj
      · rw [World.frozen?_of_block (w := ((w.alloc (.cells #[.pointer (o 0), .pointer (o 1), .pointer (o 2), .pointer (o 3), .pointer (o 4), .pointer (o 5), .pointer (o 6), .pointer (o 7), .pointer (o 8), .pointer (o 9), .pointer (o 10)] 26)).alloc (.cells #[.pointer (t 0), .pointer (t 1), .pointer (t 2), .pointer (t 3), .pointer (t 4), .pointer (t 5), .pointer (t 6), .pointer (t 7), .pointer (t 8), .pointer (t 9), .pointer (t 10)] 26)).alloc (.cells #[.pointer none, .pointer none, .pointer none, .pointer none, .pointer none, .pointer none, .pointer none, .pointer none, .pointer none, .pointer none, .pointer none] 26)) hblk]
        have hn := World.frozen?_alloc_new ((w.alloc (.cells #[.pointer (o 0), .pointer (o 1), .pointer (o 2), .pointer (o 3), .pointer (o 4), .pointer (o 5), .pointer (o 6), .pointer (o 7), .pointer (o 8), .pointer (o 9), .pointer (o 10)] 26)).alloc (.cells #[.pointer (t 0), .pointer (t 1), .pointer (t 2), .pointer (t 3), .pointer (t 4), .pointer (t 5), .pointer (t 6), .pointer (t 7), .pointer (t 8), .pointer (t 9), .pointer (t 10)] 26)) #[.pointer none, .pointer none, .pointer none, .pointer none, .pointer none, .pointer none, .pointer none, .pointer none, .pointer none, .pointer none, .pointer none] 26 j
        rw [unhide S2] at hn
        exact hn
    clear hj S1 S2 S3 HB hlt
    go_wp2_with (refine wpList_store_mid rfl 26 _ _ rfl (w.heap.size + 1 + 1) 0 #[.pointer (joinF v o t 8 0), .pointer (joinF v o t 8 1), .pointer (joinF v o t 8 2), .pointer (joinF v o t 8 3), .pointer (joinF v o t 8 4), .pointer (joinF v o t 8 5), .pointer (joinF v o t 8 6), .pointer (joinF v o t 8 7), .pointer (joinF v o t 8 8), .pointer (joinF v o t 8 9), .pointer (joinF v o t 8 10)] rfl rfl hth size26 (one11 _) ?_)
    obtain ⟨b0, b1, b2, b3, b4, b5, b6, b7, b8, b9, b10⟩ := cell11 _ _ _ (Lay.set (joinF v o t 8) hth)
    exact bodyPost_ret (v := .agg #[.pointer (joinF v o t 8 0), .pointer (joinF v o t 8 1), .pointer (joinF v o t 8 2), .pointer (joinF v o t 8 3), .pointer (joinF v o t 8 4), .pointer (joinF v o t 8 5), .pointer (joinF v o t 8 6), .pointer (joinF v o t 8 7), .pointer (joinF v o t 8 8), .pointer (joinF v o t 8 9), .pointer (joinF v o t 8 10)]) (by simp [results, Try.results9, go_sem, b0, b1, b2, b3, b4, b5, b6, b7, b8, b9, b10]) rfl ⟨rfl, below_setCells _ (by omega) _ _ hbw⟩

end Go.Proofs.Qxb6601817a.Join
