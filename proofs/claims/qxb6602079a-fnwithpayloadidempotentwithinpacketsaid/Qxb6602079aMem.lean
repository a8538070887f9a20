import Derived.Test.Qxb6602079aRows
import Derived.WalkKit
import Derived.ProofKit
import Derived.OpenShut
import Derived.ShutString
import Derived.ChangeOld
import Derived.Below
import Derived.WalkLawsBesides
import Derived.WalkSmall
namespace Go.Proofs.Qxb6602079a
open Go.ChangeShapes Go.WideShapes Go.ChangeAt Go.RowKit

theorem hide {p : Prop} (h : p) : Hid p := h
theorem unhide {p : Prop} (h : Hid p) : p := h

/-- Block g is a row of n cells of type e, none frozen; cell j holds f j. -/
def Row (w : World) (g : Nat) (e : TypeId) (n : Nat) (f : Nat → Value) : Prop :=
  ∃ cur : Array Value, w.heap[g]? = some (.cells cur e (0, 0)) ∧ cur.size = n ∧ ∀ j, j < n → cur[j]? = some (f j)

section
variable {w : World} {g : Nat} {e : TypeId} {n : Nat} {f : Nat → Value}

theorem Row.lt (h : Row w g e n f) : g < w.heap.size := by
  obtain ⟨cur, h1, _⟩ := h
  exact (Array.getElem?_eq_some_iff.1 h1).1

theorem Row.cell (h : Row w g e n f) {j : Nat} (hj : j < n) : w.cell? ⟨g, j, none⟩ = some (f j) := by
  obtain ⟨cur, h1, _, h3⟩ := h
  rw [cell_of_row w g j cur e (0, 0) h1]; exact h3 j hj

theorem Row.free (h : Row w g e n f) (j : Nat) : w.frozen? ⟨g, j, none⟩ = false := by
  obtain ⟨cur, h1, _⟩ := h
  exact frozen_of_row w g j cur e h1

theorem Row.cong (h : Row w g e n f) {f' : Nat → Value} (hf : ∀ j, j < n → f j = f' j) : Row w g e n f' := by
  obtain ⟨cur, h1, h2, h3⟩ := h
  exact ⟨cur, h1, h2, fun j hj => by rw [h3 j hj, hf j hj]⟩

theorem Row.of_block {w' : World} (h : Row w g e n f) (hb : w'.heap[g]? = w.heap[g]?) : Row w' g e n f := by
  obtain ⟨cur, h1, h2, h3⟩ := h
  exact ⟨cur, by rw [hb]; exact h1, h2, h3⟩

theorem Row.alloc (h : Row w g e n f) (o : Obj) : Row (w.alloc o) g e n f :=
  h.of_block (heap_alloc_old w o h.lt)

theorem Row.drew (h : Row w g e n f) : Row w.drew g e n f := h

theorem Row.below {w' : World} {B : Nat} (h : Row w g e n f) (hb : Below B w w') (hg : g < B) : Row w' g e n f :=
  h.of_block (hb.block g hg)

theorem Row.other (h : Row w g e n f) {a : Addr} (u : Value) (ha : g ≠ a.block) : Row (w.setCell a u) g e n f :=
  h.of_block (Below.heap_setCell w a u g ha)

theorem Row.set (h : Row w g e n f) (j : Nat) (u : Value) : Row (w.setCell ⟨g, j, none⟩ u) g e n (fun i => if i = j then u else f i) := by
  obtain ⟨cur, h1, h2, h3⟩ := h
  refine ⟨cur.setIfInBounds j u, heap_setCell_same w g j cur e u h1, by simpa using h2, fun i hi => ?_⟩
  rw [Array.getElem?_setIfInBounds]
  by_cases hij : j = i
  · subst hij; rw [if_pos rfl, if_pos (by omega)]; simp
  · rw [if_neg hij, h3 i hi]; simp [show ¬ i = j by omega]

theorem Row.make {z : Value} (h : w.ownsRow g e 1 (.slice (some ⟨g, 0, none⟩) n n) n (madeCells #[z] n).toList) : Row w g e n (fun _ => z) := by
  rcases h.2 with ⟨h', _⟩ | ⟨g', cap', cur, h', _, hg, _, _, hs, htake⟩
  · simp at h'
  · simp only [Value.slice.injEq, Option.some.injEq, Addr.mk.injEq, and_true, true_and] at h'
    obtain ⟨rfl, rfl⟩ := h'
    refine ⟨cur, hg, by omega, fun j hj => ?_⟩
    have h2 : cur.toList.take (n * 1) = cur.toList := List.take_of_length_le (by simp; omega)
    rw [h2] at htake
    have : cur[j]? = cur.toList[j]? := by simp
    rw [this, htake]
    simp [madeCells, hj, Nat.mod_one]

theorem Row.lit (w : World) (cs : Array Value) (e : TypeId) (f : Nat → Value) (hf : ∀ j, j < cs.size → cs[j]? = some (f j)) : Row (w.alloc (.cells cs e)) w.heap.size e cs.size f :=
  ⟨cs, heap_alloc_new w _, rfl, hf⟩
end
end Go.Proofs.Qxb6602079a
