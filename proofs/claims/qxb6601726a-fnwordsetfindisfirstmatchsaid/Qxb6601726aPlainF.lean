import Derived.Test.Qxb6601726aPlainO
import Derived.Test.Qxb6601726aPlainC
namespace Go.Proofs.Qxb6601726a
open Go.ChangeShapes Go.WideShapes Go.ChangeAt Go.RowKit
set_option linter.unusedVariables false

/-- Some word ends at index e of the text. -/
def EndsHere (ss : Nat → ByteArray) (m : Nat) (t : Nat → Int) (e : Nat) : Prop := ∃ j, j < m ∧ ends t (e + 1) (bt (ss j)) (ss j).size = true

theorem mt_low {c v : Int} (hc : 0 ≤ c ∧ c ≤ 255) (hv : 0 ≤ v ∧ v ≤ 255) (h : mt c v = true) : c.toNat ||| 32 = v.toNat ||| 32 := by
  rw [mt_or hc] at h
  simp at h
  rcases h with h | ⟨h1, h2, h3⟩
  · rw [h]
  · have h0 := (or_low v.toNat (by omega)).2 (by omega)
    rw [h0]
    omega

theorem ends_byte {t wd : Nat → Int} {n m k : Nat} (h : ends t n wd m = true) (hk : k < m) : m ≤ n ∧ mt (t (n - m + k)) (wd k) = true := by
  unfold ends at h
  simp at h
  exact ⟨h.1, h.2 k hk⟩

/-- If word j ends i0 places behind a, the pair at a is the word's pair there. -/
theorem pair_at {ss : Nat → ByteArray} {sh j k i0 : Nat} {t : Nat → Int} (ht : ∀ i, 0 ≤ t i ∧ t i ≤ 255) (h2 : 2 ≤ sh) (hsh : sh ≤ (ss j).size) (hi : i0 + 2 ≤ sh) (h : ends t (k + 1 + i0 + 1) (bt (ss j)) (ss j).size = true) :
    pr (t k) (t (k + 1)) = pairOf ss sh j (sh - 1 - i0) := by
  obtain ⟨h3, m1⟩ := ends_byte h (show (ss j).size - 2 - i0 < (ss j).size by omega)
  obtain ⟨_, m2⟩ := ends_byte h (show (ss j).size - 1 - i0 < (ss j).size by omega)
  rw [show k + 1 + i0 + 1 - (ss j).size + ((ss j).size - 2 - i0) = k by omega] at m1
  rw [show k + 1 + i0 + 1 - (ss j).size + ((ss j).size - 1 - i0) = k + 1 by omega] at m2
  unfold pairOf
  rw [show (ss j).size - sh + (sh - 1 - i0 - 1) = (ss j).size - 2 - i0 by omega, show (ss j).size - sh + (sh - 1 - i0) = (ss j).size - 1 - i0 by omega]
  exact pr_same (ht _) (ht _) (bt_bounds _ _) (bt_bounds _ _) (mt_low (ht _) (bt_bounds _ _) m1) (mt_low (ht _) (bt_bounds _ _) m2)

theorem hit_iff {ss : Nat → ByteArray} {m : Nat} {s : WS} (hs : IsSet ss m s) (hr : ∀ i, i < m → 2 ≤ (ss i).size) {t : Nat → Int} (ht : ∀ i, 0 ≤ t i ∧ t i ≤ 255) (k : Nat) : hitAny s t (k + 1) (pr (t k) (t (k + 1))) m = true ↔ EndsHere ss m t (k + 1) := by
  have h2 := shK_ge ss m hr
  unfold hitAny EndsHere
  rw [List.any_eq_true]
  constructor
  · rintro ⟨j, hj, hh⟩
    rw [hit_of hs] at hh
    simp at hh
    exact ⟨j, List.mem_range.1 hj, hh.2⟩
  · rintro ⟨j, hj, hh⟩
    refine ⟨j, List.mem_range.2 hj, ?_⟩
    rw [hit_of hs]
    have hp := pair_at (sh := shK ss m) ht h2 (shK_le_size ss m j hj) (i0 := 0) (by omega) hh
    rw [show shK ss m - 1 - 0 = shK ss m - 1 by omega, pairOf_last h2 (shK_le_size ss m j hj)] at hp
    simp [hp, hh]

/-- What one step passes over: no word ends there; and how far it goes. -/
theorem step_over {ss : Nat → ByteArray} {m : Nat} {s : WS} (hs : IsSet ss m s) (hr : ∀ i, i < m → 2 ≤ (ss i).size) {t : Nat → Int} (ht : ∀ i, 0 ≤ t i ∧ t i ≤ 255) {k : Nat} {d : Int} (h : nxt s t (k + 1) = some d) :
    1 ≤ d ∧ d ≤ (shK ss m : Int) - 1 ∧ ∀ i0 : Nat, (i0 : Int) < d → ¬ EndsHere ss m t (k + 1 + i0) := by
  have h2 := shK_ge ss m hr
  obtain ⟨hp0, hp1⟩ := pr_bounds (t k) (t (k + 1)) (ht _).1 (ht _).2 (ht _).1 (ht _).2
  have hpos := nxt_pos hs.good h
  have hhit := hit_iff hs hr ht k
  have hpair := fun (j i0 : Nat) (hj : j < m) (hi : i0 + 2 ≤ shK ss m) (he : ends t (k + 1 + i0 + 1) (bt (ss j)) (ss j).size = true) => pair_at (sh := shK ss m) ht h2 (shK_le_size ss m j hj) hi he
  unfold nxt at h
  rw [show k + 1 - 1 = k by omega] at h
  generalize pr (t k) (t (k + 1)) = p at *
  obtain ⟨q, rfl⟩ := Int.eq_ofNat_of_zero_le hp0
  rw [Int.toNat_natCast] at h
  have ht1 := hs.sk q (by omega)
  by_cases h0 : 0 < s.sk q
  · rw [if_pos h0] at h
    injection h with h
    subst h
    refine ⟨hpos, ht1.hi, ?_⟩
    rintro i0 hi0 ⟨j, hj, he⟩
    have := ht1.hi
    have hp := hpair j i0 hj (by omega) he
    have := ht1.all j (shK ss m - 1 - i0) ((Pd_one _ m _ _).2 ⟨hj, by omega, by omega⟩) hp.symm
    omega
  · rw [if_neg h0, hs.hm] at h
    by_cases hh : hitAny s t (k + 1) (q : Int) m = true
    · rw [if_pos hh] at h; cases h
    · rw [if_neg hh] at h
      injection h with h
      obtain ⟨j1, a1, a2, a3⟩ := lastAg_at (zero_last hs hr (p := q) (by omega) h0)
      have g1 := hs.ag j1 a1
      rw [hs.la] at a2
      simp only at a2
      rw [a2, ← a3, h] at g1
      refine ⟨hpos, g1.hi, ?_⟩
      rintro i0 hi0 ⟨j, hj, he⟩
      by_cases hz : i0 = 0
      · subst hz
        exact hh (hhit.2 ⟨j, hj, he⟩)
      · have := g1.hi
        have hp := hpair j i0 hj (by omega) he
        have := g1.all j (shK ss m - 1 - i0) ((Pd_one _ m _ _).2 ⟨hj, by omega, by omega⟩) (by omega) hp.symm
        omega

theorem step_hit {ss : Nat → ByteArray} {m : Nat} {s : WS} (hs : IsSet ss m s) (hr : ∀ i, i < m → 2 ≤ (ss i).size) {t : Nat → Int} (ht : ∀ i, 0 ≤ t i ∧ t i ≤ 255) {k : Nat} (h : nxt s t (k + 1) = none) : EndsHere ss m t (k + 1) := by
  have hhit := hit_iff hs hr ht k
  unfold nxt at h
  rw [show k + 1 - 1 = k by omega] at h
  split at h
  · cases h
  · split at h
    · rename_i h1 h2
      rw [hs.hm] at h2
      exact hhit.1 h2
    · cases h

theorem firstMatch {ss : Nat → ByteArray} {m : Nat} {s : WS} (hs : IsSet ss m s) (hr : ∀ i, i < m → 2 ≤ (ss i).size) {t : Nat → Int} (ht : ∀ i, 0 ≤ t i ∧ t i ≤ 255) (n : Nat) : ∀ (f : Nat) (a : Int), 1 ≤ a → (n : Int) - a ≤ f →
    (∀ e : Nat, a ≤ e → e < n → EndsHere ss m t e → (∀ e' : Nat, a ≤ e' → e' < e → ¬ EndsHere ss m t e') → findF s n t f a = (true, (e : Int))) ∧
    ((∀ e : Nat, a ≤ e → e < n → ¬ EndsHere ss m t e) → (findF s n t f a).1 = false ∧ (¬ a < n → (findF s n t f a).2 = a) ∧ (a < n → (n : Int) ≤ (findF s n t f a).2 ∧ (findF s n t f a).2 ≤ (n : Int) + (shK ss m : Int) - 2)) := by
  intro f
  induction f with
  | zero =>
    intro a h1 h2
    rw [findF_end (by omega)]
    exact ⟨fun e h3 h4 => by omega, fun _ => ⟨rfl, fun _ => rfl, fun h => by omega⟩⟩
  | succ f ih =>
    intro a h1 h2
    by_cases hlt : a < n
    · obtain ⟨k, rfl⟩ : ∃ k : Nat, a = (k : Int) + 1 := ⟨(a - 1).toNat, by omega⟩
      rw [findF, if_pos hlt, show ((k : Int) + 1).toNat = k + 1 by omega]
      cases hx : nxt s t (k + 1) with
      | none =>
        have he := step_hit hs hr ht hx
        refine ⟨fun e h3 h4 h5 h6 => ?_, fun h => absurd he (h (k + 1) (by omega) (by omega))⟩
        by_cases hek : e = k + 1
        · subst hek
          show (true, (k : Int) + 1) = (true, ((k + 1 : Nat) : Int))
          congr 1
        · exact absurd he (h6 (k + 1) (by omega) (by omega))
      | some d =>
        obtain ⟨hd1, hd2, hno⟩ := step_over hs hr ht hx
        have hno' : ∀ e : Nat, (k : Int) + 1 ≤ e → (e : Int) < (k : Int) + 1 + d → ¬ EndsHere ss m t e := by
          intro e h3 h4
          have := hno (e - (k + 1)) (by omega)
          rw [show k + 1 + (e - (k + 1)) = e by omega] at this
          exact this
        obtain ⟨i1, i2⟩ := ih ((k : Int) + 1 + d) (by omega) (by omega)
        refine ⟨fun e h3 h4 h5 h6 => ?_, fun h => ?_⟩
        · by_cases hge : (k : Int) + 1 + d ≤ e
          · exact i1 e hge h4 h5 fun e' h7 h8 => h6 e' (by omega) h8
          · exact absurd h5 (hno' e h3 (by omega))
        · obtain ⟨j1, j2, j3⟩ := i2 fun e h3 h4 => h e (by omega) h4
          refine ⟨j1, fun h => absurd hlt h, fun _ => ?_⟩
          by_cases hn : (k : Int) + 1 + d < n
          · exact j3 hn
          · have := j2 hn
            show (n : Int) ≤ (findF s n t f ((k : Int) + 1 + d)).2 ∧ (findF s n t f ((k : Int) + 1 + d)).2 ≤ (n : Int) + (shK ss m : Int) - 2
            omega
    · rw [findF_end hlt]
      exact ⟨fun e h3 h4 => by omega, fun _ => ⟨rfl, fun _ => rfl, fun h => absurd h hlt⟩⟩

/-- No word of two bytes or more ends at index 0. -/
theorem none_at_zero {ss : Nat → ByteArray} {m : Nat} (hr : ∀ i, i < m → 2 ≤ (ss i).size) {t : Nat → Int} : ¬ EndsHere ss m t 0 := by
  rintro ⟨j, hj, h⟩
  have := hr j hj
  have := (ends_byte h (show 0 < (ss j).size by omega)).1
  omega

/-- FnWordSetFindIsFirstMatch, in plain words. -/
theorem firstMatchR {ss : Nat → ByteArray} {m : Nat} {s : WS} (hs : IsSet ss m s) (hr : ∀ i, i < m → 2 ≤ (ss i).size) {t : Nat → Int} (ht : ∀ i, 0 ≤ t i ∧ t i ≤ 255) (n : Nat) (at0 : Int) :
    (∀ e : Nat, at0 ≤ e → e < n → EndsHere ss m t e → (∀ e' : Nat, at0 ≤ e' → e' < e → ¬ EndsHere ss m t e') → findR s n t at0 = (true, (e : Int))) ∧
    ((∀ e : Nat, at0 ≤ e → e < n → ¬ EndsHere ss m t e) → (findR s n t at0).1 = false ∧ (¬ max at0 1 < n → (findR s n t at0).2 = max at0 1) ∧ (max at0 1 < n → (n : Int) ≤ (findR s n t at0).2 ∧ (findR s n t at0).2 ≤ (n : Int) + (shK ss m : Int) - 2)) := by
  obtain ⟨i1, i2⟩ := firstMatch hs hr ht n n (max at0 1) (by omega) (by omega)
  refine ⟨fun e h3 h4 h5 h6 => ?_, fun h => i2 fun e h3 h4 => h e (by omega) h4⟩
  have he : e ≠ 0 := fun h0 => none_at_zero hr (t := t) (by rw [← h0]; exact h5)
  exact i1 e (by omega) h4 h5 fun e' h7 h8 => h6 e' (by omega) h8
end Go.Proofs.Qxb6601726a
