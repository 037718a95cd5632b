/- Qxb6601817a: what the regions of the three laws share. -/
import Derived.Test.Qxb6601817aJoinMore
import Derived.Deep.DeepCutAuto
namespace Go.Proofs.Qxb6601817a.Join
open Go.ChangeShapes Go.WideShapes Go.ChangeAt Go.RowKit

theorem Lay.range {w : World} {g : Nat} {f : Nat → Option Addr} (h : Lay w g f) : w.rangeAt g 0 [.pointer (f 0), .pointer (f 1), .pointer (f 2), .pointer (f 3), .pointer (f 4), .pointer (f 5), .pointer (f 6), .pointer (f 7), .pointer (f 8), .pointer (f 9), .pointer (f 10)] := fun j u hu => by
  rw [Nat.zero_add]
  match j, hu with
  | 0, hu => exact (h 0 (by omega)).trans hu
  | 1, hu => exact (h 1 (by omega)).trans hu
  | 2, hu => exact (h 2 (by omega)).trans hu
  | 3, hu => exact (h 3 (by omega)).trans hu
  | 4, hu => exact (h 4 (by omega)).trans hu
  | 5, hu => exact (h 5 (by omega)).trans hu
  | 6, hu => exact (h 6 (by omega)).trans hu
  | 7, hu => exact (h 7 (by omega)).trans hu
  | 8, hu => exact (h 8 (by omega)).trans hu
  | 9, hu => exact (h 9 (by omega)).trans hu
  | 10, hu => exact (h 10 (by omega)).trans hu

theorem keep_call {n : Nat} {a W w1 : World} (h : Below n a W) (hb : Below W.heap.size W w1) (hn : n ≤ a.heap.size := by exact Nat.le_refl _) : Below n a w1 :=
  h.trans (hb.mono (Nat.le_trans hn h.size))
theorem keep_alloc {a W : World} (h : Below a.heap.size a W) (o : Obj) : Below a.heap.size a (W.alloc o) := h.alloc h.size o
theorem keep_store {a W : World} {g : Nat} (h : Below a.heap.size a W) (hg : a.heap.size ≤ g) (vs : List Value) (o : Nat) : Below a.heap.size a (W.setCells g o vs) := below_setCells g hg vs o h

theorem there_new (W : World) (ty : TypeId) : (W.alloc (.cells #[.pointer none, .pointer none, .pointer none, .pointer none, .pointer none, .pointer none, .pointer none, .pointer none, .pointer none, .pointer none, .pointer none] ty)).there W.heap.size 0 11 :=
  there_of (f := fun _ => Option.none) (Lay.new W (fun _ => Option.none) ty) (fun j _ => World.frozen?_alloc_new _ _ _ j)
theorem there_below {W w1 : World} {g : Nat} (h : W.there g 0 11) (hb : Below W.heap.size W w1) : w1.there g 0 11 := fun j hj => by
  obtain ⟨h1, h2⟩ := h j hj
  obtain ⟨u, hu⟩ := Option.isSome_iff_exists.1 h1
  have hlt := World.block_lt_of_cell? W _ hu
  exact ⟨by rw [hb.cell hlt]; exact h1, by rw [hb.frozen hlt]; exact h2⟩
/-- A row of the world a, read in a later one. -/
theorem row_in {a W : World} {g : Nat} {f : Nat → Option Addr} (hl : Lay a g f) (hg : g < a.heap.size) (h : Below a.heap.size a W) : W.rangeAt g 0 [.pointer (f 0), .pointer (f 1), .pointer (f 2), .pointer (f 3), .pointer (f 4), .pointer (f 5), .pointer (f 6), .pointer (f 7), .pointer (f 8), .pointer (f 9), .pointer (f 10)] := (hl.below h hg).range

theorem zzjoin_at (w : World) (v : Addr → Bool) (o t : Nat → Option Addr) (go : Good w w.heap.size v o) (gt : Good w w.heap.size v t) (W : World) (h : Below w.heap.size w W) :
    Calls Try.prog 9 #[.agg #[.pointer (o 0), .pointer (o 1), .pointer (o 2), .pointer (o 3), .pointer (o 4), .pointer (o 5), .pointer (o 6), .pointer (o 7), .pointer (o 8), .pointer (o 9), .pointer (o 10)], .agg #[.pointer (t 0), .pointer (t 1), .pointer (t 2), .pointer (t 3), .pointer (t 4), .pointer (t 5), .pointer (t 6), .pointer (t 7), .pointer (t 8), .pointer (t 9), .pointer (t 10)]] W fun e w' => e = .returned (.agg #[.pointer (joinF v o t 8 0), .pointer (joinF v o t 8 1), .pointer (joinF v o t 8 2), .pointer (joinF v o t 8 3), .pointer (joinF v o t 8 4), .pointer (joinF v o t 8 5), .pointer (joinF v o t 8 6), .pointer (joinF v o t 8 7), .pointer (joinF v o t 8 8), .pointer (joinF v o t 8 9), .pointer (joinF v o t 8 10)]) ∧ Below W.heap.size W w' :=
  zzjoin_any w.heap.size v o t W h.size (go.below h) (gt.below h)
theorem failed_at (w : World) (v : Addr → Bool) (f : Nat → Option Addr) (hg : Good w w.heap.size v f) (W : World) (h : Below w.heap.size w W) :
    Calls Try.prog 13 #[.agg #[.pointer (f 0), .pointer (f 1), .pointer (f 2), .pointer (f 3), .pointer (f 4), .pointer (f 5), .pointer (f 6), .pointer (f 7), .pointer (f 8), .pointer (f 9), .pointer (f 10)]] W fun e w' => e = .returned (.bool (fails v f 11)) ∧ Below W.heap.size W w' :=
  failed_any w.heap.size v f W h.size (hg.below h)

end Go.Proofs.Qxb6601817a.Join
