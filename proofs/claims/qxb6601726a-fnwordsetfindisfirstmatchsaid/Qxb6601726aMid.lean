import Derived.Test.Qxb6601726aAlloc
import Derived.Laws.IdiomStrings
namespace Go.Proofs.Qxb6601726a
open Go.ChangeShapes Go.WideShapes Go.ChangeAt Go.RowKit
set_option linter.unusedVariables false

/-! ### Pieces of a function's code, by their numbers -/
def getRegion (n : Nat) : Code → Option Code
  | .region i ops d => if i = n then some (.region i ops d) else none
  | .seq a b => match getRegion n a with
    | some c => some c
    | none => getRegion n b
  | .block _ c => getRegion n c
  | .scope c => getRegion n c
  | .loop c => getRegion n c
  | .cond _ a b => match getRegion n a with
    | some c => some c
    | none => getRegion n b
  | _ => none
def firstReg : Code → Option Nat
  | .region i _ _ => some i
  | .seq a _ => firstReg a
  | .block _ c => firstReg c
  | .scope c => firstReg c
  | _ => none
def getLoop (n : Nat) : Code → Option Code
  | .loop c => if firstReg c = some n then some (.loop c) else getLoop n c
  | .seq a b => match getLoop n a with
    | some c => some c
    | none => getLoop n b
  | .block _ c => getLoop n c
  | .scope c => getLoop n c
  | .cond _ a b => match getLoop n a with
    | some c => some c
    | none => getLoop n b
  | _ => none

theorem Try.info54 : (Try.prog.info? 54).map (fun i => (i.zero, i.size, i.bytes)) = some (some (.agg #[.slice none 0 0, .int .u16 0, .int .u8 0]), 3, 32) := by kernel_rfl

def bt (s : ByteArray) (j : Nat) : Int := ((s.data[j]?.getD 0).toNat : Int)

theorem cell_bytes {W : World} {B c : Nat} {s : ByteArray} {fr : Nat × Nat} (h : W.heap[B]? = some (.cells (bytesRow s c) 5 fr)) (j : Nat) (hj : j < s.size) :
    W.cell? ⟨B, j, none⟩ = some (.int .u8 (bt s j)) := by
  rw [cell_of_row W B j _ _ _ h, bytesRow_at s c j hj]
  have e : s.data[j]?.getD 0 = s.data[j]'hj := by rw [Array.getElem?_eq_getElem hj]; rfl
  rw [bt, e]

theorem bt_bounds (s : ByteArray) (j : Nat) : 0 ≤ bt s j ∧ bt s j ≤ 255 := by
  unfold bt
  have := (s.data[j]?.getD 0).toNat_lt
  omega

/-- What '[]byte(s)' lays, and its capacity. -/
def bcap (W : World) (s : ByteArray) : Nat := grownCap W s.size 0 5
def bobj (W : World) (s : ByteArray) : Obj := .cells (bytesRow s (bcap W s)) 5 ((bytesRow s (bcap W s)).size, (bytesRow s (bcap W s)).size + 1)
theorem run_bytes (W : World) (s : ByteArray) : (convert 9 32 (.string s)).run Try.prog W = .ok (.slice (some ⟨W.heap.size, 0, none⟩) s.size (bcap W s)) (W.drew.alloc (bobj W s)) :=
  run_bytes_of_string (P := Try.prog) W 9 32 5 s Try.underlying9 Try.underlying32 Try.underlying5

theorem bcap_ok (W : World) (s : ByteArray) (h : s.size ≤ 64) : s.size ≤ bcap W s ∧ bcap W s ≤ 9223372036854775807 := by
  have h1 := grownCap_ge W s.size 0 5
  have h2 := grownCap_le_maxLen W s.size 0 5 (by unfold maxLen; omega)
  unfold maxLen at h2
  exact ⟨h1, h2⟩

def lastOf (s : ByteArray) : Int := pr (bt s (s.size - 2)) (bt s (s.size - 1))

theorem pair_str (s : ByteArray) (B c' : Nat) (W : World) (i : Int) (hi : i = (s.size : Int) - 1) (hs1 : 2 ≤ s.size) (hs2 : s.size ≤ 64) (h : ∃ W', W.heap[B]? = some (bobj W' s)) :
    Calls Try.prog 31 #[.slice (some ⟨B, 0, none⟩) s.size c', .int .i64 i] W fun e w' => e = .returned (.int .u16 (lastOf s)) ∧ ∃ nq, w' = W.drewN nq := by
  subst hi
  obtain ⟨W', h⟩ := h
  have e1 : s.size - 2 + 1 = s.size - 1 := by omega
  refine pairAt_any B 0 s.size c' _ (s.size - 2) _ _ W (by omega) (by omega) (by omega) ?_ ?_ (bt_bounds _ _).1 (bt_bounds _ _).2 (bt_bounds _ _).1 (bt_bounds _ _).2
  · rw [Nat.zero_add]; exact cell_bytes h _ (by omega)
  · rw [Nat.zero_add, e1]; exact cell_bytes h _ (by omega)

/-! ### New blocks -/
theorem at1 {H : Array Obj} {A : Obj} {X : World} (h : X.heap = H.push A) : X.heap[H.size]? = some A := by rw [h]; simp
theorem at2o {H : Array Obj} {A B : Obj} {X : World} (h : X.heap = (H.push A).push B) : X.heap[H.size]? = some A := by
  rw [h, Array.getElem?_push, if_neg (by simp)]; simp
theorem at2n {H : Array Obj} {A B : Obj} {X : World} (h : X.heap = (H.push A).push B) : X.heap[H.size + 1]? = some B := by
  rw [h, Array.getElem?_push, if_pos (by simp)]
theorem at3 {H : Array Obj} {A B C : Obj} {X : World} (h : X.heap = ((H.push A).push B).push C) : X.heap[H.size + 2]? = some C := by
  rw [h, Array.getElem?_push, if_pos (by simp)]
theorem at3a {H : Array Obj} {A B C : Obj} {X : World} (h : X.heap = ((H.push A).push B).push C) : X.heap[H.size]? = some A := by
  rw [h, Array.getElem?_push, if_neg (by simp; omega), Array.getElem?_push, if_neg (by simp)]; simp
theorem at3b {H : Array Obj} {A B C : Obj} {X : World} (h : X.heap = ((H.push A).push B).push C) : X.heap[H.size + 1]? = some B := by
  rw [h, Array.getElem?_push, if_neg (by simp), Array.getElem?_push, if_pos (by simp)]
theorem size3 {H : Array Obj} {A B C : Obj} {X : World} (h : X.heap = ((H.push A).push B).push C) : X.heap.size = H.size + 3 := by
  rw [h]; simp
theorem le3 {H : Array Obj} {A B C : Obj} {X : World} {a : Nat} (h : X.heap = ((H.push A).push B).push C) (ha : a ≤ H.size + 3) : a ≤ X.heap.size := by
  rw [size3 h]; exact ha
theorem lt3 {H : Array Obj} {A B C : Obj} {X : World} {a : Nat} (h : X.heap = ((H.push A).push B).push C) (ha : a < H.size) : a < X.heap.size := by
  rw [size3 h]; omega
theorem old3 {W X : World} {A B C : Obj} (h : X.heap = ((W.heap.push A).push B).push C) {g : Nat} (hg : g < W.heap.size) : X.heap[g]? = W.heap[g]? := by
  rw [h, Array.getElem?_push, if_neg (by simp; omega), Array.getElem?_push, if_neg (by simp; omega), Array.getElem?_push, if_neg (by omega)]
theorem own3 {W X : World} {base : Nat} {e : TypeId} {size : Nat} {v : Value} {n : Nat} {xs : List Value} (h : W.ownsRow base e size v n xs) {A B C : Obj} (hh : X.heap = ((W.heap.push A).push B).push C) : X.ownsRow base e size v n xs := by
  have h3 := ((h.alloc A).alloc B).alloc C
  unfold World.ownsRow at *
  rw [hh]; exact h3

/-! ### The state in the midst of newWordSet's first loop -/
def upd {α : Type} (f : Nat → α) (k : Nat) (x : α) : Nat → α := fun j => if j = k then x else f j
theorem upd_same {α : Type} (f : Nat → α) (k : Nat) (x : α) : upd f k x k = x := by simp [upd]
theorem upd_other {α : Type} (f : Nat → α) {k j : Nat} (x : α) (h : j ≠ k) : upd f k x j = f j := by simp [upd, h]

def wl (ss : Nat → ByteArray) (tb cp : Nat → Nat) : Nat → List Value
  | 0 => []
  | k + 1 => wl ss tb cp k ++ [.slice (some ⟨tb k, 0, none⟩) (ss k).size (cp k), .int .u16 (lastOf (ss k)), .int .u8 0]

theorem wl_cong (ss : Nat → ByteArray) (tb cp tb' cp' : Nat → Nat) (k : Nat) (h : ∀ j, j < k → tb j = tb' j ∧ cp j = cp' j) : wl ss tb cp k = wl ss tb' cp' k := by
  induction k with
  | zero => rfl
  | succ n ih => rw [wl, wl, ih (fun j hj => h j (by omega)), (h n (by omega)).1, (h n (by omega)).2]

def shK (ss : Nat → ByteArray) : Nat → Nat
  | 0 => 64
  | k + 1 => min (shK ss k) (ss k).size

structure Mid (w0 wr : World) (ss : Nat → ByteArray) (k : Nat) (v : Value) (sh lo : Int) (tb cp : Nat → Nat) : Prop where
  below : Below w0.heap.size w0 wr
  strc : wr.heap[w0.heap.size + 1]? = some (.cells #[v, .int .i64 sh, .int .i64 lo, .pointer (some ⟨w0.heap.size, 0, none⟩)] 50 (0, 0))
  table : ∃ f, Row wr w0.heap.size 47 65536 f
  row : wr.ownsRow (w0.heap.size + 2) 54 3 v k (wl ss tb cp k)
  text : ∀ j, j < k → ∃ c fr, wr.heap[tb j]? = some (.cells (bytesRow (ss j) c) 5 fr)
  caps : ∀ j, j < k → (ss j).size ≤ cp j ∧ cp j ≤ 9223372036854775807

theorem Mid.lt {w0 wr : World} {ss : Nat → ByteArray} {k : Nat} {v : Value} {sh lo : Int} {tb cp : Nat → Nat} (h : Mid w0 wr ss k v sh lo tb cp) : w0.heap.size + 1 < wr.heap.size :=
  (Array.getElem?_eq_some_iff.1 h.strc).1

theorem own_ne {W : World} {base : Nat} {e e' : TypeId} {size : Nat} {v : Value} {n : Nat} {xs : List Value} (h : W.ownsRow base e size v n xs) {g : Nat} {c : Array Value} {fr : Nat × Nat} (hg : W.heap[g]? = some (.cells c e' fr)) (hne : e ≠ e') : some g ≠ v.ownBlock := by
  intro heq
  rcases h.2 with ⟨rfl, _⟩ | ⟨g', cap, cur, rfl, _, hb, _⟩
  · simp [Value.ownBlock] at heq
  · simp [Value.ownBlock] at heq
    subst heq
    rw [hb] at hg
    simp at hg
    exact hne hg.2.1

theorem mid_push {w wr X w1 : World} {ss : Nat → ByteArray} {k : Nat} {v : Value} {sh lo : Int} {tb cp : Nat → Nat} {A B C : Obj} {T c gg cap2 : Nat} {W' : World} {s : ByteArray} (hm : Mid w wr ss k v sh lo tb cp)
    (hgrow : X.grownBy w1 v.ownBlock)
    (hown1 : w1.ownsRow (w.heap.size + 2) 54 3 (.slice (some ⟨gg, 0, none⟩) (k + 1) cap2) (k + 1) (wl ss tb cp k ++ [.slice (some ⟨T, 0, none⟩) s.size c, .int .u16 (lastOf s), .int .u8 0]))
    (e1 : X.os = wr.os) (e2 : X.tape = wr.tape) (e3 : X.output = wr.output) (hX : X.heap = ((wr.heap.push A).push B).push C) (hs : s = ss k) (hT : wr.heap.size ≤ T) (hTX : X.heap[T]? = some (bobj W' s)) (hcc : s.size ≤ c ∧ c ≤ 9223372036854775807) :
    Mid w (w1.setCell ⟨w.heap.size + 1, 0, none⟩ (.slice (some ⟨gg, 0, none⟩) (k + 1) cap2)) ss (k + 1) (.slice (some ⟨gg, 0, none⟩) (k + 1) cap2) sh lo (upd tb k T) (upd cp k c) := by
  subst hs
  have hlt := hm.lt
  have hsz := size3 hX
  have hS : some (w.heap.size + 1) ≠ v.ownBlock := own_ne hm.row hm.strc (by decide)
  obtain ⟨f, htab⟩ := hm.table
  have hG : some w.heap.size ≠ v.ownBlock := by
    obtain ⟨cur, h1, _⟩ := htab
    exact own_ne hm.row h1 (by decide)
  have hst1 : w1.heap[w.heap.size + 1]? = some (.cells #[v, .int .i64 sh, .int .i64 lo, .pointer (some ⟨w.heap.size, 0, none⟩)] 50 (0, 0)) := by
    rw [hgrow.block _ (by omega) hS, old3 hX hlt]; exact hm.strc
  have keep : ∀ g c' fr, g < X.heap.size → some g ≠ v.ownBlock → X.heap[g]? = some (.cells c' 5 fr) → (w1.setCell ⟨w.heap.size + 1, 0, none⟩ (.slice (some ⟨gg, 0, none⟩) (k + 1) cap2)).heap[g]? = some (.cells c' 5 fr) := by
    intro g c' fr h1 h2 h3
    have h4 : w1.heap[g]? = some (.cells c' 5 fr) := by rw [hgrow.block g h1 h2]; exact h3
    rw [Below.heap_setCell _ _ _ _ ?_]
    · exact h4
    · intro e
      simp at e
      subst e
      rw [hst1] at h4
      simp at h4
  refine ⟨?_, ?_, ?_, ?_, ?_, ?_⟩
  · have b1 : Below w.heap.size wr X := ⟨e1, e2, e3, by omega, fun g hg => old3 hX (by omega)⟩
    refine Below.setCell ((hm.below.trans b1).grown hgrow (by omega) ?_) (by simp) _
    intro g hg
    have := (hm.row.lt g hg).1
    omega
  · exact heap_setCell_same w1 (w.heap.size + 1) 0 _ 50 _ hst1
  · refine ⟨f, Row.other (htab.of_block ?_) _ (by simp)⟩
    rw [hgrow.block _ (by omega) hG, old3 hX (by omega)]
  · refine ownsRow_setCell_below ?_ (by simp) _
    have e : wl ss (upd tb k T) (upd cp k c) (k + 1) = wl ss tb cp k ++ [.slice (some ⟨T, 0, none⟩) (ss k).size c, .int .u16 (lastOf (ss k)), .int .u8 0] := by
      rw [wl, upd_same, upd_same, wl_cong ss (upd tb k T) (upd cp k c) tb cp k (fun j hj => ⟨upd_other _ _ (by omega), upd_other _ _ (by omega)⟩)]
    rw [e]
    exact hown1
  · intro j hj
    by_cases hjk : j = k
    · subst hjk
      rw [upd_same]
      refine ⟨_, _, keep T _ _ (Array.getElem?_eq_some_iff.1 hTX).1 ?_ hTX⟩
      intro e
      have := (hm.row.lt T e.symm).2
      omega
    · rw [upd_other _ _ hjk]
      obtain ⟨c', fr, hb⟩ := hm.text j (by omega)
      have hlt' := (Array.getElem?_eq_some_iff.1 hb).1
      exact ⟨c', fr, keep _ _ _ (by omega) (own_ne hm.row hb (by decide)) (by rw [old3 hX hlt']; exact hb)⟩
  · intro j hj
    by_cases hjk : j = k
    · subst hjk; rw [upd_same]; exact hcc
    · rw [upd_other _ _ hjk]; exact hm.caps j (by omega)
end Go.Proofs.Qxb6601726a
