import Derived.Test.Qxb6601726aHelp
import Derived.SliceStrings
namespace Go.Proofs.Qxb6601726a
open Go.ChangeShapes Go.WideShapes Go.ChangeAt Go.RowKit

theorem at_le {a : Int} (h : (Lit.int .i64 a).wf = true) : a ≤ 9223372036854775807 := by
  simp [Lit.wf] at h
  omega

theorem words_of {W : World} {x : Addr} {len cap : Nat} {zs : List ByteArray} (hl : len ≤ cap) (hm : cap ≤ maxLen) (hz : zs.length = cap) (hcell : ∀ i, i < zs.length → W.cell? (x.add i) = some (.string (zs.getD i ByteArray.empty))) (hwz : ∀ s ∈ zs, s.size ≤ maxLen) :
    ∃ b off ss, WordsAt W (some x) b off len ss ∧ len ≤ 9223372036854775807 ∧ (some x = none → len = 0 ∧ cap = 0) ∧ ∀ i, i < len → (ss i).size ≤ 9223372036854775807 := by
  unfold maxLen at hm hwz
  by_cases h0 : len = 0
  · subst h0
    exact ⟨0, 0, fun _ => ByteArray.empty, ⟨fun h => by omega, fun i hi => by omega⟩, by omega, fun h => (by cases h), fun i hi => by omega⟩
  · obtain ⟨b, off, spot⟩ := x
    have hspot : spot = none := by simpa [Addr.add] using World.cell?_spot (hcell 0 (by omega))
    subst hspot
    refine ⟨b, off, fun i => zs.getD i ByteArray.empty, ⟨fun _ => rfl, fun i hi => by rw [← add_plain]; exact hcell i (by omega)⟩, by omega, fun h => (by cases h), fun i hi => ?_⟩
    refine hwz _ ?_
    have e : zs.getD i ByteArray.empty = zs[i]'(by omega) := by simp [List.getD, List.getElem?_eq_getElem (show i < zs.length by omega)]
    show zs.getD i ByteArray.empty ∈ zs
    rw [e]
    exact List.getElem_mem _

theorem text_of {W : World} {x : Addr} {len cap : Nat} {zs : List Int} (hl : len ≤ cap) (hm : cap ≤ maxLen) (hz : zs.length = cap) (hcell : ∀ i, i < zs.length → W.cell? (x.add i) = some (.int .u8 (zs.getD i 0))) (hwz : ∀ n ∈ zs, (Lit.int .u8 n).wf = true) :
    ∃ b off t, TextAt W (some x) b off len cap t ∧ (some x = none → len = 0 ∧ cap = 0) := by
  unfold maxLen at hm
  by_cases h0 : len = 0
  · subst h0
    exact ⟨0, 0, fun _ => 0, ⟨by omega, by omega, fun h => by omega, fun i hi => by omega, fun i => by omega⟩, fun h => (by cases h)⟩
  · obtain ⟨b, off, spot⟩ := x
    have hspot : spot = none := by simpa [Addr.add] using World.cell?_spot (hcell 0 (by omega))
    subst hspot
    refine ⟨b, off, fun i => zs.getD i 0, ⟨hl, by omega, fun _ => rfl, fun i hi => by rw [← add_plain]; exact hcell i (by omega), fun i => ?_⟩, fun h => (by cases h)⟩
    have hb := range_u8 hwz i
    simpa [List.getD] using hb
end Go.Proofs.Qxb6601726a
