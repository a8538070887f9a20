import Derived.Test.Qxb6601726aSpec
namespace Go.Proofs.Qxb6601726a
open Go.ChangeShapes Go.WideShapes Go.ChangeAt Go.RowKit
set_option linter.unusedVariables false

/-- The words' row: word j's three cells. -/
def WRow (wr : World) (gw m : Nat) (ss : Nat → ByteArray) (tb cp : Nat → Nat) (ag : Nat → Int) : Prop :=
  ∃ cur : Array Value, wr.heap[gw]? = some (.cells cur 54 (0, 0)) ∧ ∀ j, j < m → cur[j * 3]? = some (.slice (some ⟨tb j, 0, none⟩) (ss j).size (cp j)) ∧
    cur[j * 3 + 1]? = some (.int .u16 (lastOf (ss j))) ∧ cur[j * 3 + 2]? = some (.int .u8 (ag j))

structure M2 (w wr : World) (ss : Nat → ByteArray) (m : Nat) (ao : Option Addr) (gw cw sh : Nat) (lo : Int) (tb cp : Nat → Nat) (tv : Nat → Value) (ag : Nat → Int) : Prop where
  below : Below w.heap.size w wr
  strc : wr.heap[w.heap.size + 1]? = some (.cells #[.slice ao m cw, .int .i64 sh, .int .i64 lo, .pointer (some ⟨w.heap.size, 0, none⟩)] 50 (0, 0))
  table : Row wr w.heap.size 47 65536 tv
  at0 : 0 < m → ao = some ⟨gw, 0, none⟩
  cap : m ≤ cw
  gwlo : 0 < m → w.heap.size + 2 ≤ gw
  words : 0 < m → WRow wr gw m ss tb cp ag
  text : ∀ j, j < m → ∃ c fr, wr.heap[tb j]? = some (.cells (bytesRow (ss j) c) 5 fr)
  caps : ∀ j, j < m → (ss j).size ≤ cp j ∧ cp j ≤ 9223372036854775807

theorem wl_length (ss : Nat → ByteArray) (tb cp : Nat → Nat) (k : Nat) : (wl ss tb cp k).length = k * 3 := by
  induction k with
  | zero => rfl
  | succ n ih => rw [wl, List.length_append, ih]; simp; omega

theorem wl_at (ss : Nat → ByteArray) (tb cp : Nat → Nat) (k j : Nat) (h : j < k) : (wl ss tb cp k)[j * 3]? = some (.slice (some ⟨tb j, 0, none⟩) (ss j).size (cp j)) ∧
    (wl ss tb cp k)[j * 3 + 1]? = some (.int .u16 (lastOf (ss j))) ∧ (wl ss tb cp k)[j * 3 + 2]? = some (.int .u8 0) := by
  induction k with
  | zero => omega
  | succ n ih =>
    have hl := wl_length ss tb cp n
    rw [wl]
    by_cases e : j = n
    · subst e
      refine ⟨?_, ?_, ?_⟩
      · rw [List.getElem?_append_right (by omega), hl]; simp
      · rw [List.getElem?_append_right (by omega), hl, show j * 3 + 1 - j * 3 = 1 by omega]; simp
      · rw [List.getElem?_append_right (by omega), hl, show j * 3 + 2 - j * 3 = 2 by omega]; simp
    · have h1 := ih (by omega)
      refine ⟨?_, ?_, ?_⟩
      · rw [List.getElem?_append_left (by omega)]; exact h1.1
      · rw [List.getElem?_append_left (by omega)]; exact h1.2.1
      · rw [List.getElem?_append_left (by omega)]; exact h1.2.2

theorem M2.of_mid {w wr : World} {ss : Nat → ByteArray} {m sh : Nat} {v : Value} {lo : Int} {tb cp : Nat → Nat} (h : Mid w wr ss m v sh lo tb cp) :
    ∃ ao gw cw tv, v = .slice ao m cw ∧ M2 w wr ss m ao gw cw sh lo tb cp tv (fun _ => 0) := by
  obtain ⟨tv, ht⟩ := h.table
  rcases h.row.2 with ⟨hv, hm⟩ | ⟨g, cap, cur, hv, hb, hg, hc, _, hs, htk⟩
  · subst hm
    refine ⟨none, 0, 0, tv, hv, ⟨h.below, ?_, ht, fun h0 => by omega, Nat.le_refl _, fun h0 => by omega, fun h0 => by omega, fun j hj => by omega, fun j hj => by omega⟩⟩
    rw [← hv]; exact h.strc
  · refine ⟨some ⟨g, 0, none⟩, g, cap, tv, hv, ⟨h.below, ?_, ht, fun _ => rfl, hc, fun _ => hb, fun _ => ⟨cur, hg, fun j hj => ?_⟩, h.text, h.caps⟩⟩
    · rw [← hv]; exact h.strc
    · have hw := wl_at ss tb cp m j hj
      rw [← htk] at hw
      simp only [List.getElem?_take] at hw
      rw [if_pos (by omega), if_pos (by omega), if_pos (by omega)] at hw
      simpa using hw

section
variable {w wr : World} {ss : Nat → ByteArray} {m : Nat} {ao : Option Addr} {gw cw sh : Nat} {lo : Int} {tb cp : Nat → Nat} {tv : Nat → Value} {ag : Nat → Int}

theorem M2.lt (h : M2 w wr ss m ao gw cw sh lo tb cp tv ag) : w.heap.size + 1 < wr.heap.size := (Array.getElem?_eq_some_iff.1 h.strc).1
theorem M2.c0 (h : M2 w wr ss m ao gw cw sh lo tb cp tv ag) : wr.cell? ⟨w.heap.size + 1, 0, none⟩ = some (.slice ao m cw) := by
  have := cell_of_row _ _ 0 _ _ _ h.strc; simpa using this
theorem M2.c1 (h : M2 w wr ss m ao gw cw sh lo tb cp tv ag) : wr.cell? ⟨w.heap.size + 1, 1, none⟩ = some (.int .i64 sh) := by
  have := cell_of_row _ _ 1 _ _ _ h.strc; simpa using this
theorem M2.c2 (h : M2 w wr ss m ao gw cw sh lo tb cp tv ag) : wr.cell? ⟨w.heap.size + 1, 2, none⟩ = some (.int .i64 lo) := by
  have := cell_of_row _ _ 2 _ _ _ h.strc; simpa using this
theorem M2.c3 (h : M2 w wr ss m ao gw cw sh lo tb cp tv ag) : wr.cell? ⟨w.heap.size + 1, 3, none⟩ = some (.pointer (some ⟨w.heap.size, 0, none⟩)) := by
  have := cell_of_row _ _ 3 _ _ _ h.strc; simpa using this
theorem M2.w0 (h : M2 w wr ss m ao gw cw sh lo tb cp tv ag) {j : Nat} (hj : j < m) : wr.cell? ⟨gw, j * 3, none⟩ = some (.slice (some ⟨tb j, 0, none⟩) (ss j).size (cp j)) := by
  obtain ⟨cur, hg, hc⟩ := h.words (by omega)
  rw [cell_of_row _ _ _ _ _ _ hg]; exact (hc j hj).1
theorem M2.w1 (h : M2 w wr ss m ao gw cw sh lo tb cp tv ag) {j : Nat} (hj : j < m) : wr.cell? ⟨gw, j * 3 + 1, none⟩ = some (.int .u16 (lastOf (ss j))) := by
  obtain ⟨cur, hg, hc⟩ := h.words (by omega)
  rw [cell_of_row _ _ _ _ _ _ hg]; exact (hc j hj).2.1
theorem M2.w2 (h : M2 w wr ss m ao gw cw sh lo tb cp tv ag) {j : Nat} (hj : j < m) : wr.cell? ⟨gw, j * 3 + 2, none⟩ = some (.int .u8 (ag j)) := by
  obtain ⟨cur, hg, hc⟩ := h.words (by omega)
  rw [cell_of_row _ _ _ _ _ _ hg]; exact (hc j hj).2.2
theorem M2.wfree (h : M2 w wr ss m ao gw cw sh lo tb cp tv ag) (h0 : 0 < m) (j : Nat) : wr.frozen? ⟨gw, j, none⟩ = false := by
  obtain ⟨cur, hg, hc⟩ := h.words h0
  exact frozen_of_row _ _ _ _ _ hg
theorem M2.bytes (h : M2 w wr ss m ao gw cw sh lo tb cp tv ag) {j i : Nat} (hj : j < m) (hi : i < (ss j).size) : wr.cell? ⟨tb j, i, none⟩ = some (.int .u8 (bt (ss j) i)) := by
  obtain ⟨c, fr, hb⟩ := h.text j hj
  exact cell_bytes hb i hi

/-- Nothing of the set's own blocks has turned. -/
theorem M2.of_blocks {X : World} (h : M2 w wr ss m ao gw cw sh lo tb cp tv ag) (hb : Below w.heap.size w X) (hh : ∀ g, g < wr.heap.size → X.heap[g]? = wr.heap[g]?) : M2 w X ss m ao gw cw sh lo tb cp tv ag := by
  refine ⟨hb, by rw [hh _ h.lt]; exact h.strc, h.table.of_block (hh _ h.table.lt), h.at0, h.cap, h.gwlo, fun h0 => ?_, fun j hj => ?_, h.caps⟩
  · obtain ⟨cur, hg, hc⟩ := h.words h0
    exact ⟨cur, by rw [hh _ (Array.getElem?_eq_some_iff.1 hg).1]; exact hg, hc⟩
  · obtain ⟨c, fr, hx⟩ := h.text j hj
    exact ⟨c, fr, by rw [hh _ (Array.getElem?_eq_some_iff.1 hx).1]; exact hx⟩
theorem M2.drew (h : M2 w wr ss m ao gw cw sh lo tb cp tv ag) : M2 w wr.drew ss m ao gw cw sh lo tb cp tv ag := h.of_blocks h.below.drew fun g _ => rfl
theorem M2.drewN (h : M2 w wr ss m ao gw cw sh lo tb cp tv ag) (n : Nat) : M2 w (wr.drewN n) ss m ao gw cw sh lo tb cp tv ag := h.of_blocks (below_drewN h.below n) fun g _ => rfl
theorem M2.alloc (h : M2 w wr ss m ao gw cw sh lo tb cp tv ag) (o : Obj) : M2 w (wr.alloc o) ss m ao gw cw sh lo tb cp tv ag :=
  h.of_blocks (h.below.alloc (by have := h.lt; omega) o) fun g hg => heap_alloc_old wr o hg

theorem M2.setTab (h : M2 w wr ss m ao gw cw sh lo tb cp tv ag) (p : Nat) (u : Value) : M2 w (wr.setCell ⟨w.heap.size, p, none⟩ u) ss m ao gw cw sh lo tb cp (fun i => if i = p then u else tv i) ag := by
  obtain ⟨ct, ht, hts⟩ := h.table
  refine ⟨h.below.setCell (by simp) _, by rw [Below.heap_setCell _ _ _ _ (by simp)]; exact h.strc, h.table.set p u, h.at0, h.cap, h.gwlo, fun h0 => ?_, fun j hj => ?_, h.caps⟩
  · obtain ⟨cur, hg, hc⟩ := h.words h0
    refine ⟨cur, ?_, hc⟩
    rw [Below.heap_setCell _ _ _ _ ?_]
    · exact hg
    · intro e; simp only at e; rw [e, ht] at hg; simp at hg
  · obtain ⟨c, fr, hx⟩ := h.text j hj
    refine ⟨c, fr, ?_⟩
    rw [Below.heap_setCell _ _ _ _ ?_]
    · exact hx
    · intro e; simp only at e; rw [e, ht] at hx; simp at hx

theorem M2.setAg (h : M2 w wr ss m ao gw cw sh lo tb cp tv ag) {q : Nat} (hq : q < m) (x : Int) : M2 w (wr.setCell ⟨gw, q * 3 + 2, none⟩ (.int .u8 x)) ss m ao gw cw sh lo tb cp tv (fun j => if j = q then x else ag j) := by
  obtain ⟨cur, hg, hc⟩ := h.words (by omega)
  obtain ⟨ct, ht, hts⟩ := h.table
  have hgs : w.heap.size + 1 ≠ gw := by intro e; have := h.strc; rw [e, hg] at this; simp at this
  have hgt : w.heap.size ≠ gw := by intro e; rw [e, hg] at ht; simp at ht
  have hge : w.heap.size ≤ gw := by have := h.gwlo (by omega); omega
  refine ⟨h.below.setCell hge _, by rw [Below.heap_setCell _ _ _ _ hgs]; exact h.strc, h.table.other _ hgt, h.at0, h.cap, h.gwlo, fun h0 => ?_, fun j hj => ?_, h.caps⟩
  · refine ⟨cur.setIfInBounds (q * 3 + 2) (.int .u8 x), heap_setCell_same wr gw (q * 3 + 2) cur 54 _ hg, fun j hj => ?_⟩
    have hcj := hc j hj
    refine ⟨?_, ?_, ?_⟩
    · rw [Array.getElem?_setIfInBounds, if_neg (by omega)]; exact hcj.1
    · rw [Array.getElem?_setIfInBounds, if_neg (by omega)]; exact hcj.2.1
    · rw [Array.getElem?_setIfInBounds]
      by_cases e : j = q
      · subst e
        rw [if_pos rfl, if_pos (Array.getElem?_eq_some_iff.1 hcj.2.2).1]; simp
      · rw [if_neg (by omega), hcj.2.2]; simp [e]
  · obtain ⟨c, fr, hx⟩ := h.text j hj
    refine ⟨c, fr, ?_⟩
    rw [Below.heap_setCell _ _ _ _ ?_]
    · exact hx
    · intro e; simp only at e; rw [e, hg] at hx; simp at hx
end
end Go.Proofs.Qxb6601726a
