/- Qxb6601817a: a [11]*bool that came in, opened. -/
import Derived.Test.Qxb6601817aJoinPlain
import Derived.OpenShut
import Derived.ChangeOld
import Derived.Below
namespace Go.Proofs.Qxb6601817a.Join
open Go.ChangeShapes Go.WideShapes Go.ChangeAt Go.RowKit

theorem own : ownKnob Try.prog.godebug = none := by kernel_rfl
theorem laidOut : laidOutB Try.prog = true := by kernel_rfl
theorem cells23 : Try.prog.cellsOf 23 = 11 := by kernel_rfl
theorem cells22 : Try.prog.cellsOf 22 = 1 := by kernel_rfl
theorem cells4 : Try.prog.cellsOf 4 = 1 := by kernel_rfl

/-- The bool that lies at a. -/
def rd (w : World) (a : Addr) : Bool := match w.cell? a with | some (.bool b) => b | _ => false
def ptrOf (u : Option Value) : Option Addr := match u with | some (.pointer p) => p | _ => Option.none

theorem list11 {α : Type} (l : List α) (h : (⟨l⟩ : Array α).size = 11) : ∃ a0 a1 a2 a3 a4 a5 a6 a7 a8 a9 a10, l = [a0, a1, a2, a3, a4, a5, a6, a7, a8, a9, a10] := by
  match l, h with
  | [a0, a1, a2, a3, a4, a5, a6, a7, a8, a9, a10], _ => exact ⟨a0, a1, a2, a3, a4, a5, a6, a7, a8, a9, a10, rfl⟩

/-- One cell of the array. -/
theorem open_cell {H : Type} {enc : TypeId × Value → H} {W : World} {m : Nat} {u : Value} {y : DataW H × List MemPlace}
    (h : DataW.trod enc Try.prog W 0 (fun _ => true) true m 22 [u] = some y) :
    u = .pointer (ptrOf (some u)) ∧ ∀ a, ptrOf (some u) = some a → a.block < W.heap.size ∧ W.cell? a = some (.bool (rd W a)) := by
  rcases DataW.trod_pointer Try.underlying22 h with ⟨h1, _⟩ | ⟨a, cs, z, n, _, h1, _, h2, h3⟩
  · simp at h1
    subst h1
    exact ⟨rfl, fun a ha => by cases ha⟩
  · simp at h1
    subst h1
    refine ⟨rfl, fun a' ha => ?_⟩
    have e : a = a' := by injection ha
    subst e
    rw [cells4] at h2
    obtain ⟨b, h4, _⟩ := DataW.trod_bool Try.underlying4 h3
    subst h4
    have h5 : W.cell? a = some (.bool b) := by
      have hz : a.add 0 = a := by
        unfold Addr.add
        cases a
        split <;> simp_all
      simp [World.cells?, List.range_succ, hz] at h2
      cases hc : W.cell? a with
      | none => rw [hc] at h2; cases h2
      | some u => rw [hc] at h2; simp at h2; rw [h2]
    exact ⟨World.block_lt_of_cell? W a h5, by rw [h5]; unfold rd; rw [h5]⟩

theorem open_arg {H : Type} {enc : TypeId × Value → H} {W : World} {b0 : Nat} {v0 : Value} {d : DataW H} {p : List MemPlace} (hv : Value.okWide Try.prog W .any b0 23 v0)
    (h : DataW.Trod enc Try.prog W 0 (fun _ => true) true 23 v0 d p) :
    ∃ f : Nat → Option Addr, v0 = .agg #[.pointer (f 0), .pointer (f 1), .pointer (f 2), .pointer (f 3), .pointer (f 4), .pointer (f 5), .pointer (f 6), .pointer (f 7), .pointer (f 8), .pointer (f 9), .pointer (f 10)] ∧ Good W W.heap.size (rd W) f := by
  obtain ⟨cs, rfl, hsz, _⟩ : ∃ cs, v0 = .agg cs ∧ cs.size = Try.prog.cellsOf 23 ∧ Row.okWide Try.prog W .any b0 23 cs := by
    simpa [Value.okWide, Try.underlying23] using hv
  rw [cells23] at hsz
  obtain ⟨l⟩ := cs
  obtain ⟨c0, c1, c2, c3, c4, c5, c6, c7, c8, c9, c10, rfl⟩ := list11 l hsz
  obtain ⟨fuel, hf⟩ := h
  obtain ⟨xs, m, _, _, _, hl, hel⟩ := DataW.trod_array Try.underlying23 hf
  rw [cells22] at hel
  have key : ∀ i u, i < 11 → [c0, c1, c2, c3, c4, c5, c6, c7, c8, c9, c10][i]? = some u → u = .pointer (ptrOf (some u)) ∧ ∀ a, ptrOf (some u) = some a → a.block < W.heap.size ∧ W.cell? a = some (.bool (rd W a)) := fun i u hi hu => by
    have h1 := hel i hi
    rw [List.getElem?_eq_getElem (by omega : i < xs.length)] at h1
    have h2 : (List.drop (i * 1) (Value.agg #[c0, c1, c2, c3, c4, c5, c6, c7, c8, c9, c10]).cells.toList).take 1 = [u] := by
      show (List.drop (i * 1) [c0, c1, c2, c3, c4, c5, c6, c7, c8, c9, c10]).take 1 = [u]
      rw [Nat.mul_one]
      match i, hi, hu with
      | 0, _, hu => injection hu with hu; subst hu; rfl
      | 1, _, hu => injection hu with hu; subst hu; rfl
      | 2, _, hu => injection hu with hu; subst hu; rfl
      | 3, _, hu => injection hu with hu; subst hu; rfl
      | 4, _, hu => injection hu with hu; subst hu; rfl
      | 5, _, hu => injection hu with hu; subst hu; rfl
      | 6, _, hu => injection hu with hu; subst hu; rfl
      | 7, _, hu => injection hu with hu; subst hu; rfl
      | 8, _, hu => injection hu with hu; subst hu; rfl
      | 9, _, hu => injection hu with hu; subst hu; rfl
      | 10, _, hu => injection hu with hu; subst hu; rfl
    rw [h2] at h1
    exact open_cell h1
  refine ⟨fun i => ptrOf ([c0, c1, c2, c3, c4, c5, c6, c7, c8, c9, c10][i]?), ?_, ?_⟩
  · show Value.agg #[c0, c1, c2, c3, c4, c5, c6, c7, c8, c9, c10] = Value.agg #[.pointer (ptrOf (some c0)), .pointer (ptrOf (some c1)), .pointer (ptrOf (some c2)), .pointer (ptrOf (some c3)), .pointer (ptrOf (some c4)), .pointer (ptrOf (some c5)), .pointer (ptrOf (some c6)), .pointer (ptrOf (some c7)), .pointer (ptrOf (some c8)), .pointer (ptrOf (some c9)), .pointer (ptrOf (some c10))]
    rw [← (key 0 c0 (by omega) rfl).1, ← (key 1 c1 (by omega) rfl).1, ← (key 2 c2 (by omega) rfl).1, ← (key 3 c3 (by omega) rfl).1, ← (key 4 c4 (by omega) rfl).1, ← (key 5 c5 (by omega) rfl).1, ← (key 6 c6 (by omega) rfl).1, ← (key 7 c7 (by omega) rfl).1, ← (key 8 c8 (by omega) rfl).1, ← (key 9 c9 (by omega) rfl).1, ← (key 10 c10 (by omega) rfl).1]
  · intro j hj a ha
    have hlen : j < [c0, c1, c2, c3, c4, c5, c6, c7, c8, c9, c10].length := hj
    obtain ⟨u, hu⟩ : ∃ u, [c0, c1, c2, c3, c4, c5, c6, c7, c8, c9, c10][j]? = some u := ⟨_, List.getElem?_eq_getElem hlen⟩
    simp only [hu] at ha
    exact (key j u hj hu).2 a ha

end Go.Proofs.Qxb6601817a.Join
