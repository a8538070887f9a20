import Derived.Test.Qxb6601726aNew
import Derived.Test.Qxb6601726aPlainR
namespace Go.Proofs.Qxb6601726a
open Go.ChangeShapes Go.WideShapes Go.ChangeAt Go.RowKit

theorem shK_lower (ss : Nat → ByteArray) (m x : Nat) (h64 : x ≤ 64) (h : ∀ j, j < m → x ≤ (ss j).size) : x ≤ shK ss m := by
  induction m with
  | zero => exact h64
  | succ n ih =>
    have := ih (fun j hj => h j (by omega))
    have := h n (by omega)
    unfold shK
    omega

theorem shK_eq {ss ss' : Nat → ByteArray} {m m' : Nat} (h : ∀ j, j < m → ∃ j', j' < m' ∧ ss' j' = ss j) (h' : ∀ j, j < m' → ∃ j', j' < m ∧ ss j' = ss' j) : shK ss m = shK ss' m' := by
  apply Nat.le_antisymm
  · refine shK_lower _ _ _ (shK_le _ _) fun j hj => ?_
    obtain ⟨j', h1, h2⟩ := h' j hj
    rw [← h2]
    exact shK_le_size _ _ _ h1
  · refine shK_lower _ _ _ (shK_le _ _) fun j hj => ?_
    obtain ⟨j', h1, h2⟩ := h j hj
    rw [← h2]
    exact shK_le_size _ _ _ h1

theorem tab_le {sh : Nat} {P P' : Nat → Nat → Prop} {pf pf' : Nat → Nat → Int} {p : Nat} {x x' : Int} (h : TabAt sh P pf p x) (h' : TabAt sh P' pf' p x') (hP : ∀ j i, P' j i → ∃ j', P j' i ∧ pf j' i = pf' j i) : x ≤ x' := by
  rcases h'.some with e | ⟨j, i, a, b, c⟩
  · rw [e]; exact h.hi
  · obtain ⟨j', h1, h2⟩ := hP j i a
    rw [c]
    exact h.all j' i h1 (by rw [h2, b])
theorem ag_le {sh : Nat} {P P' : Nat → Nat → Prop} {pf pf' : Nat → Nat → Int} {la x x' : Int} (h : AgAt sh P pf la x) (h' : AgAt sh P' pf' la x') (hP : ∀ j i, P' j i → ∃ j', P j' i ∧ pf j' i = pf' j i) : x ≤ x' := by
  rcases h'.some with e | ⟨j, i, a, b, c, d⟩
  · rw [e]; exact h.hi
  · obtain ⟨j', h1, h2⟩ := hP j i a
    rw [d]
    exact h.all j' i h1 b (by rw [h2, c])

theorem pd_map {ss ss' : Nat → ByteArray} {m m' sh : Nat} (h : ∀ j, j < m → ∃ j', j' < m' ∧ ss' j' = ss j) : ∀ j i, Pd sh m 1 j i → ∃ j', Pd sh m' 1 j' i ∧ pairOf ss' sh j' i = pairOf ss sh j i := by
  intro j i hp
  obtain ⟨h1, h2, h3⟩ := (Pd_one sh m j i).1 hp
  obtain ⟨j', h4, h5⟩ := h j h1
  exact ⟨j', (Pd_one sh m' j' i).2 ⟨h4, h2, h3⟩, by unfold pairOf; rw [h5]⟩

theorem lastAg_at {s : WS} {p : Int} {m : Nat} (h : ∃ j, j < m ∧ s.la j = p) : ∃ j, j < m ∧ s.la j = p ∧ lastAg s p m = s.ag j := by
  induction m with
  | zero => obtain ⟨j, h1, _⟩ := h; omega
  | succ n ih =>
    unfold lastAg
    by_cases e : s.la n = p
    · exact ⟨n, by omega, e, by rw [if_pos e]⟩
    · rw [if_neg e]
      obtain ⟨j, h1, h2⟩ := h
      have hj : j ≠ n := fun he => e (by rw [← he]; exact h2)
      obtain ⟨j', a, b, c⟩ := ih ⟨j, by omega, h2⟩
      exact ⟨j', by omega, b, c⟩

theorem pairOf_last {ss : Nat → ByteArray} {sh j : Nat} (h2 : 2 ≤ sh) (h : sh ≤ (ss j).size) : pairOf ss sh j (sh - 1) = lastOf (ss j) := by
  unfold pairOf lastOf
  rw [show (ss j).size - sh + (sh - 1 - 1) = (ss j).size - 2 by omega, show (ss j).size - sh + (sh - 1) = (ss j).size - 1 by omega]

/-- Where the table says 0 a word ends in that pair. -/
theorem zero_last {ss : Nat → ByteArray} {m : Nat} {s : WS} (h : IsSet ss m s) (hr : ∀ i, i < m → 2 ≤ (ss i).size) {p : Nat} (hp : p < 65536) (h0 : ¬ 0 < s.sk p) : ∃ j, j < m ∧ s.la j = (p : Int) := by
  have ht := h.sk p hp
  have h2 := shK_ge ss m hr
  have := ht.lo
  rcases ht.some with e | ⟨j, i, a, b, c⟩
  · omega
  · obtain ⟨h4, h5, h6⟩ := (Pd_one _ m j i).1 a
    have hi : i = shK ss m - 1 := by omega
    subst hi
    rw [pairOf_last h2 (shK_le_size ss m j h4)] at b
    exact ⟨j, h4, by rw [h.la]; exact b⟩

theorem hit_of {ss : Nat → ByteArray} {m : Nat} {s : WS} (hs : IsSet ss m s) (t : Nat → Int) (a j : Nat) (q : Int) : (decide (s.la j = q) && hit s t a j) = (decide (lastOf (ss j) = q) && ends t (a + 1) (bt (ss j)) (ss j).size) := by
  unfold hit
  rw [hs.la, hs.tx, hs.ln]

theorem hitAny_sets {ss ss' : Nat → ByteArray} {m m' : Nat} {s s' : WS} (hs : IsSet ss m s) (hs' : IsSet ss' m' s') (h : ∀ j, j < m → ∃ j', j' < m' ∧ ss' j' = ss j) (h' : ∀ j, j < m' → ∃ j', j' < m ∧ ss j' = ss' j) (t : Nat → Int) (a : Nat) (q : Int) :
    hitAny s t a q m = hitAny s' t a q m' := by
  unfold hitAny
  rw [Bool.eq_iff_iff, List.any_eq_true, List.any_eq_true]
  constructor
  · rintro ⟨j, hj, hh⟩
    obtain ⟨j', h1, h2⟩ := h j (List.mem_range.1 hj)
    refine ⟨j', List.mem_range.2 h1, ?_⟩
    rw [hit_of hs'] 
    rw [hit_of hs] at hh
    rw [h2]; exact hh
  · rintro ⟨j, hj, hh⟩
    obtain ⟨j', h1, h2⟩ := h' j (List.mem_range.1 hj)
    refine ⟨j', List.mem_range.2 h1, ?_⟩
    rw [hit_of hs]
    rw [hit_of hs'] at hh
    rw [h2]; exact hh

theorem nxt_sets {ss ss' : Nat → ByteArray} {m m' : Nat} {s s' : WS} (hs : IsSet ss m s) (hs' : IsSet ss' m' s') (hr : ∀ i, i < m → 2 ≤ (ss i).size) (hr' : ∀ i, i < m' → 2 ≤ (ss' i).size)
    (h : ∀ j, j < m → ∃ j', j' < m' ∧ ss' j' = ss j) (h' : ∀ j, j < m' → ∃ j', j' < m ∧ ss j' = ss' j) {t : Nat → Int} (ht : ∀ i, 0 ≤ t i ∧ t i ≤ 255) (a : Nat) : nxt s t a = nxt s' t a := by
  obtain ⟨hp0, hp1⟩ := pr_bounds (t (a - 1)) (t a) (ht _).1 (ht _).2 (ht _).1 (ht _).2
  unfold nxt
  generalize pr (t (a - 1)) (t a) = p at *
  obtain ⟨q, rfl⟩ := Int.eq_ofNat_of_zero_le hp0
  rw [Int.toNat_natCast]
  have hsh := shK_eq h h'
  have t1 := hs.sk q (by omega)
  have t2 := hs'.sk q (by omega)
  rw [← hsh] at t2
  have esk : s.sk q = s'.sk q := Int.le_antisymm (tab_le t1 t2 (pd_map h')) (tab_le t2 t1 (pd_map h))
  rw [← esk]
  by_cases h0 : 0 < s.sk q
  · rw [if_pos h0, if_pos h0]
  · rw [if_neg h0, if_neg h0, hs.hm, hs'.hm]
    have ehit : hitAny s t a (q : Int) m = hitAny s' t a (q : Int) m' := hitAny_sets hs hs' h h' t a q
    rw [ehit]
    obtain ⟨j1, a1, a2, a3⟩ := lastAg_at (zero_last hs hr (by omega) h0)
    obtain ⟨j2, b1, b2, b3⟩ := lastAg_at (zero_last hs' hr' (p := q) (by omega) (by rw [← esk]; exact h0))
    have g1 := hs.ag j1 a1
    have g2 := hs'.ag j2 b1
    rw [hs.la] at a2
    rw [hs'.la] at b2
    simp only at a2 b2
    rw [a2] at g1
    rw [b2, ← hsh] at g2
    have eag : s.ag j1 = s'.ag j2 := Int.le_antisymm (ag_le g1 g2 (pd_map h')) (ag_le g2 g1 (pd_map h))
    rw [a3, b3, eag]

theorem findF_same {s s' : WS} {n : Nat} {t t' : Nat → Int} (h : ∀ a, nxt s t a = nxt s' t' a) : ∀ (f : Nat) (a : Int), findF s n t f a = findF s' n t' f a := by
  intro f
  induction f with
  | zero => intro a; rfl
  | succ f ih =>
    intro a
    rw [findF, findF]
    by_cases hlt : a < n
    · rw [if_pos hlt, if_pos hlt, h a.toNat]
      cases nxt s' t' a.toNat with
      | none => rfl
      | some d => exact ih (a + d)
    · rw [if_neg hlt, if_neg hlt]

theorem findR_sets {ss ss' : Nat → ByteArray} {m m' : Nat} {s s' : WS} (hs : IsSet ss m s) (hs' : IsSet ss' m' s') (hr : ∀ i, i < m → 2 ≤ (ss i).size) (hr' : ∀ i, i < m' → 2 ≤ (ss' i).size)
    (h : ∀ j, j < m → ∃ j', j' < m' ∧ ss' j' = ss j) (h' : ∀ j, j < m' → ∃ j', j' < m ∧ ss j' = ss' j) {t : Nat → Int} (ht : ∀ i, 0 ≤ t i ∧ t i ≤ 255) (n : Nat) (at0 : Int) : findR s n t at0 = findR s' n t at0 :=
  findF_same (fun a => nxt_sets hs hs' hr hr' h h' ht a) n _
end Go.Proofs.Qxb6601726a
