/- Qxb6601817a: the plain side of Checks.join: eleven verdicts (pointers to bools) as a function of their number; the join; what lies in memory. -/
import Derived.Test.Qxb6601817aRows
import Derived.WalkKit
import Derived.ProofKit
namespace Go.Proofs.Qxb6601817a.Join
open Go.ChangeShapes Go.WideShapes Go.ChangeAt Go.RowKit

/-! ### The join of two verdicts, and of two rows of verdicts up to the k-th -/
/-- The joined verdict of two: theirs where theirs changes ours. 'v a': the bool that lies at a. -/
def jn (v : Addr → Bool) (o t : Option Addr) : Option Addr :=
  match t with
  | none => o
  | some ta => match o with
    | none => some ta
    | some oa => if v oa && !v ta then some ta else some oa
def joinF (v : Addr → Bool) (o t : Nat → Option Addr) (k : Nat) : Nat → Option Addr := fun j => if j < k then jn v (o j) (t j) else o j

theorem joinF_at (v : Addr → Bool) (o t : Nat → Option Addr) (k : Nat) : joinF v o t k k = o k := if_neg (by omega)
theorem joinF_ne (v : Addr → Bool) (o t : Nat → Option Addr) (k j : Nat) (h : j ≠ k) : joinF v o t (k + 1) j = joinF v o t k j := by
  unfold joinF
  by_cases c : j < k
  · rw [if_pos c, if_pos (by omega)]
  · rw [if_neg c, if_neg (by omega)]
theorem joinF_same (v : Addr → Bool) (o t : Nat → Option Addr) (k : Nat) : joinF v o t (k + 1) k = jn v (o k) (t k) := if_pos (by omega)
theorem joinF_zero (v : Addr → Bool) (o t : Nat → Option Addr) : joinF v o t 0 = o := funext fun j => if_neg (by omega)

/-! ### What lies in memory -/
/-- Eleven pointers lie in block g. -/
def Lay (w : World) (g : Nat) (f : Nat → Option Addr) : Prop := ∀ j, j < 11 → w.cell? ⟨g, j, none⟩ = some (.pointer (f j))
/-- What f's pointers lead to lies below B and reads as v says. -/
def Good (w : World) (B : Nat) (v : Addr → Bool) (f : Nat → Option Addr) : Prop := ∀ j, j < 11 → ∀ a, f j = some a → a.block < B ∧ w.cell? a = some (.bool (v a))

theorem Lay.setCell {w : World} {g : Nat} {f : Nat → Option Addr} (h : Lay w g f) {a : Addr} (ha : g ≠ a.block) (u : Value) : Lay (w.setCell a u) g f := fun j hj => by
  rw [World.cell?_of_block (w := w) (Below.heap_setCell w a u g ha)]
  exact h j hj
theorem Lay.alloc {w : World} {g : Nat} {f : Nat → Option Addr} (h : Lay w g f) (hg : g < w.heap.size) (o : Obj) : Lay (w.alloc o) g f := fun j hj => by
  rw [World.cell?_alloc_lt _ _ ⟨g, j, none⟩ hg]
  exact h j hj
theorem Lay.below {w w' : World} {B g : Nat} {f : Nat → Option Addr} (h : Lay w g f) (hb : Below B w w') (hg : g < B) : Lay w' g f := fun j hj => by
  rw [hb.cell (p := ⟨g, j, none⟩) hg]
  exact h j hj
theorem Lay.new (w : World) (f : Nat → Option Addr) (t : TypeId) : Lay (w.alloc (.cells #[.pointer (f 0), .pointer (f 1), .pointer (f 2), .pointer (f 3), .pointer (f 4), .pointer (f 5), .pointer (f 6), .pointer (f 7), .pointer (f 8), .pointer (f 9), .pointer (f 10)] t)) w.heap.size f := fun j hj => by
  rw [World.cell?_alloc_new]
  match j, hj with
  | 0, _ => rfl
  | 1, _ => rfl
  | 2, _ => rfl
  | 3, _ => rfl
  | 4, _ => rfl
  | 5, _ => rfl
  | 6, _ => rfl
  | 7, _ => rfl
  | 8, _ => rfl
  | 9, _ => rfl
  | 10, _ => rfl
theorem Good.below {w w' : World} {B : Nat} {v : Addr → Bool} {f : Nat → Option Addr} (h : Good w B v f) (hb : Below B w w') : Good w' B v f := fun j hj a ha => by
  obtain ⟨h1, h2⟩ := h j hj a ha
  exact ⟨h1, by rw [hb.cell h1]; exact h2⟩
theorem Good.mono {w : World} {B B' : Nat} {v : Addr → Bool} {f : Nat → Option Addr} (h : Good w B v f) (hB : B ≤ B') : Good w B' v f := fun j hj a ha => by
  obtain ⟨h1, h2⟩ := h j hj a ha
  exact ⟨by omega, h2⟩
theorem Good.join {w : World} {B : Nat} {v : Addr → Bool} {o t : Nat → Option Addr} (h : Good w B v o) (k : Good w B v t) (n : Nat) : Good w B v (joinF v o t n) := fun j hj a ha => by
  unfold joinF at ha
  by_cases c : j < n
  · rw [if_pos c] at ha
    unfold jn at ha
    split at ha
    · exact h j hj a ha
    · rename_i ta ht
      split at ha
      · exact k j hj a (by rw [ht]; exact ha)
      · rename_i oa ho
        split at ha
        · exact k j hj a (by rw [ht]; exact ha)
        · exact h j hj a (by rw [ho]; exact ha)
  · rw [if_neg c] at ha
    exact h j hj a ha

/-! ### The world at the head of join's round k -/
/-- Block b holds the joined pointers up to k; the three blocks from w's end on are the call's own. -/
structure JR (v : Addr → Bool) (o t : Nat → Option Addr) (b : Nat) (w : World) (k : Nat) (wr : World) : Prop where
  os : wr.os = w.os
  tape : wr.tape = w.tape
  output : wr.output = w.output
  size : w.heap.size + 3 ≤ wr.heap.size
  old : ∀ i, i < w.heap.size → i ≠ b → wr.heap[i]? = w.heap[i]?
  ours : Lay wr b (joinF v o t k)
  free : ∀ j, j < 11 → wr.frozen? ⟨b, j, none⟩ = false
  theirs : Lay wr w.heap.size t
  row1 : Lay wr (w.heap.size + 1) (fun j => some ⟨w.heap.size, j, none⟩)
  row2 : Lay wr (w.heap.size + 1 + 1) (fun j => some ⟨b, j, none⟩)

theorem JR.start (v : Addr → Bool) (o t : Nat → Option Addr) (b : Nat) (w : World) (hb : b < w.heap.size) (ho : Lay w b o) (hf : ∀ j, j < 11 → w.frozen? ⟨b, j, none⟩ = false) :
    JR v o t b w 0 (((w.alloc (.cells #[.pointer (t 0), .pointer (t 1), .pointer (t 2), .pointer (t 3), .pointer (t 4), .pointer (t 5), .pointer (t 6), .pointer (t 7), .pointer (t 8), .pointer (t 9), .pointer (t 10)] 26)).alloc (.cells #[.pointer (some ⟨w.heap.size, 0, none⟩), .pointer (some ⟨w.heap.size, 1, none⟩), .pointer (some ⟨w.heap.size, 2, none⟩), .pointer (some ⟨w.heap.size, 3, none⟩), .pointer (some ⟨w.heap.size, 4, none⟩), .pointer (some ⟨w.heap.size, 5, none⟩), .pointer (some ⟨w.heap.size, 6, none⟩), .pointer (some ⟨w.heap.size, 7, none⟩), .pointer (some ⟨w.heap.size, 8, none⟩), .pointer (some ⟨w.heap.size, 9, none⟩), .pointer (some ⟨w.heap.size, 10, none⟩)] 44)).alloc (.cells #[.pointer (some ⟨b, 0, none⟩), .pointer (some ⟨b, 1, none⟩), .pointer (some ⟨b, 2, none⟩), .pointer (some ⟨b, 3, none⟩), .pointer (some ⟨b, 4, none⟩), .pointer (some ⟨b, 5, none⟩), .pointer (some ⟨b, 6, none⟩), .pointer (some ⟨b, 7, none⟩), .pointer (some ⟨b, 8, none⟩), .pointer (some ⟨b, 9, none⟩), .pointer (some ⟨b, 10, none⟩)] 44)).drew.drew := by
  have s1 : ∀ o1 : Obj, (w.alloc o1).heap.size = w.heap.size + 1 := fun o1 => by simp
  have s2 : ∀ o1 o2 : Obj, ((w.alloc o1).alloc o2).heap.size = w.heap.size + 1 + 1 := fun o1 o2 => by simp
  have s3 : ∀ o1 o2 o3 : Obj, (((w.alloc o1).alloc o2).alloc o3).heap.size = w.heap.size + 1 + 1 + 1 := fun o1 o2 o3 => by simp
  have hB : ∀ o1 o2 o3 : Obj, Below w.heap.size w (((w.alloc o1).alloc o2).alloc o3).drew.drew := fun o1 o2 o3 => ((((Below.refl _ _).alloc (Nat.le_refl _) _).alloc (by rw [s1]; omega) _).alloc (by rw [s2]; omega) _).drew.drew
  refine { os := rfl, tape := rfl, output := rfl, size := ?_, old := ?_, ours := ?_, free := ?_, theirs := ?_, row1 := ?_, row2 := ?_ }
  · show _ ≤ (((w.alloc _).alloc _).alloc _).heap.size
    rw [s3]; omega
  · intro i hi _
    exact (hB _ _ _).block i hi
  · rw [joinF_zero]
    exact ho.below (hB _ _ _) hb
  · intro j hj
    exact ((hB _ _ _).frozen (p := ⟨b, j, none⟩) hb).trans (hf j hj)
  · exact ((Lay.new w t 26).alloc (by rw [s1]; omega) _).alloc (by rw [s2]; omega) _
  · have h := (Lay.new (w.alloc (.cells #[.pointer (t 0), .pointer (t 1), .pointer (t 2), .pointer (t 3), .pointer (t 4), .pointer (t 5), .pointer (t 6), .pointer (t 7), .pointer (t 8), .pointer (t 9), .pointer (t 10)] 26)) (fun j => some ⟨w.heap.size, j, none⟩) 44).alloc (by rw [s1, s2]; omega) (.cells #[.pointer (some ⟨b, 0, none⟩), .pointer (some ⟨b, 1, none⟩), .pointer (some ⟨b, 2, none⟩), .pointer (some ⟨b, 3, none⟩), .pointer (some ⟨b, 4, none⟩), .pointer (some ⟨b, 5, none⟩), .pointer (some ⟨b, 6, none⟩), .pointer (some ⟨b, 7, none⟩), .pointer (some ⟨b, 8, none⟩), .pointer (some ⟨b, 9, none⟩), .pointer (some ⟨b, 10, none⟩)] 44)
    rw [s1] at h
    exact h
  · have h := Lay.new ((w.alloc (.cells #[.pointer (t 0), .pointer (t 1), .pointer (t 2), .pointer (t 3), .pointer (t 4), .pointer (t 5), .pointer (t 6), .pointer (t 7), .pointer (t 8), .pointer (t 9), .pointer (t 10)] 26)).alloc (.cells #[.pointer (some ⟨w.heap.size, 0, none⟩), .pointer (some ⟨w.heap.size, 1, none⟩), .pointer (some ⟨w.heap.size, 2, none⟩), .pointer (some ⟨w.heap.size, 3, none⟩), .pointer (some ⟨w.heap.size, 4, none⟩), .pointer (some ⟨w.heap.size, 5, none⟩), .pointer (some ⟨w.heap.size, 6, none⟩), .pointer (some ⟨w.heap.size, 7, none⟩), .pointer (some ⟨w.heap.size, 8, none⟩), .pointer (some ⟨w.heap.size, 9, none⟩), .pointer (some ⟨w.heap.size, 10, none⟩)] 44)) (fun j => some ⟨b, j, none⟩) 44
    rw [s2] at h
    exact h

/-- A round that leaves ours. -/
theorem JR.keep {v : Addr → Bool} {o t : Nat → Option Addr} {b : Nat} {w : World} {k : Nat} {wr : World} (h : JR v o t b w k wr) (e : jn v (o k) (t k) = o k) : JR v o t b w (k + 1) wr := by
  refine { os := h.os, tape := h.tape, output := h.output, size := h.size, old := h.old, ours := ?_, free := h.free, theirs := h.theirs, row1 := h.row1, row2 := h.row2 }
  intro j hj
  rw [h.ours j hj]
  by_cases c : j = k
  · subst c
    rw [joinF_at, joinF_same, e]
  · rw [joinF_ne _ _ _ _ _ c]

/-- A round that stores theirs. -/
theorem JR.put {v : Addr → Bool} {o t : Nat → Option Addr} {b : Nat} {w : World} {k : Nat} {wr : World} (h : JR v o t b w k wr) (hb : b < w.heap.size) (p : Option Addr) (e : jn v (o k) (t k) = p) : JR v o t b w (k + 1) (wr.setCell ⟨b, k, none⟩ (.pointer p)) := by
  refine { os := h.os, tape := h.tape, output := h.output, size := ?_, old := ?_, ours := ?_, free := ?_, theirs := ?_, row1 := ?_, row2 := ?_ }
  · simpa [World.setCell] using h.size
  · intro i hi hne
    rw [Below.heap_setCell _ _ _ _ hne]
    exact h.old i hi hne
  · intro j hj
    by_cases c : j = k
    · subst c
      rw [World.cell?_setCell_same _ _ _ (h.ours j hj), joinF_same, e]
    · rw [World.cell?_setCell_other _ _ _ _ (by intro he; injection he with _ h2; exact c h2.symm), h.ours j hj, joinF_ne _ _ _ _ _ c]
  · intro j hj
    rw [World.frozen?_setCell]
    exact h.free j hj
  · exact h.theirs.setCell (by show w.heap.size ≠ b; omega) _
  · exact h.row1.setCell (by show w.heap.size + 1 ≠ b; omega) _
  · exact h.row2.setCell (by show w.heap.size + 1 + 1 ≠ b; omega) _

end Go.Proofs.Qxb6601817a.Join
