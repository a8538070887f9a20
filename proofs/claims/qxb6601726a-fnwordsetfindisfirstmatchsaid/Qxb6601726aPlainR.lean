import Derived.Test.Qxb6601726aPlain
namespace Go.Proofs.Qxb6601726a
open Go.ChangeShapes Go.WideShapes Go.ChangeAt Go.RowKit

theorem ends_congr {t t' : Nat → Int} {n : Nat} (wd : Nat → Int) (m : Nat) (h : ∀ i, i < n → t i = t' i) : ends t n wd m = ends t' n wd m := by
  unfold ends
  by_cases hm : m ≤ n
  · have e : ∀ k, k ∈ List.range m → mt (t (n - m + k)) (wd k) = mt (t' (n - m + k)) (wd k) := by
      intro k hk
      rw [h _ (by have := List.mem_range.1 hk; omega)]
    have : (List.range m).all (fun k => mt (t (n - m + k)) (wd k)) = (List.range m).all (fun k => mt (t' (n - m + k)) (wd k)) := by
      rw [Bool.eq_iff_iff, List.all_eq_true, List.all_eq_true]
      exact ⟨fun hh k hk => by rw [← e k hk]; exact hh k hk, fun hh k hk => by rw [e k hk]; exact hh k hk⟩
    rw [this]
  · simp [hm]

theorem hitAny_congr {s : WS} {t t' : Nat → Int} {a : Nat} {p : Int} {k : Nat} (h : ∀ j, j < k → hit s t a j = hit s t' a j) : hitAny s t a p k = hitAny s t' a p k := by
  unfold hitAny
  rw [Bool.eq_iff_iff, List.any_eq_true, List.any_eq_true]
  constructor
  · rintro ⟨j, hj, hh⟩
    exact ⟨j, hj, by rw [← h j (List.mem_range.1 hj)]; exact hh⟩
  · rintro ⟨j, hj, hh⟩
    exact ⟨j, hj, by rw [h j (List.mem_range.1 hj)]; exact hh⟩

theorem nxt_congr {s : WS} {t t' : Nat → Int} {a : Nat} (h : ∀ i, i ≤ a → t i = t' i) : nxt s t a = nxt s t' a := by
  unfold nxt
  rw [h (a - 1) (by omega), h a (Nat.le_refl _), hitAny_congr (t := t) (t' := t') fun j _ => ends_congr _ _ fun i hi => h i (by omega)]

theorem nxt_pos {s : WS} (g : s.Good) {t : Nat → Int} {a : Nat} {d : Int} (h : nxt s t a = some d) : 1 ≤ d := by
  unfold nxt at h
  split at h
  · injection h with h; omega
  · split at h
    · cases h
    · injection h with h
      have := (lastAg_bounds g (pr (t (a - 1)) (t a)) s.m).1
      omega

theorem findF_fuel {s : WS} (g : s.Good) (n : Nat) (t : Nat → Int) : ∀ (f f' : Nat) (a : Int), (n : Int) - a ≤ f → (n : Int) - a ≤ f' → findF s n t f a = findF s n t f' a := by
  intro f
  induction f with
  | zero => intro f' a h1 _; rw [findF_end (by omega), findF_end (by omega)]
  | succ f ih =>
    intro f' a h1 h2
    by_cases hlt : a < n
    · obtain ⟨f', rfl⟩ : ∃ k, f' = k + 1 := ⟨f' - 1, by omega⟩
      rw [findF, findF, if_pos hlt, if_pos hlt]
      cases hx : nxt s t a.toNat with
      | none => rfl
      | some d =>
        have := nxt_pos g hx
        exact ih f' (a + d) (by omega) (by omega)
    · rw [findF_end hlt, findF_end hlt]

theorem resumes {s : WS} (g : s.Good) {n n' : Nat} {t t' : Nat → Int} (hn : n ≤ n') (ht : ∀ i, i < n → t i = t' i) : ∀ (f : Nat) (a : Int), 1 ≤ a → (n : Int) - a ≤ f →
    ((findF s n t f a).1 = true → ∀ f' : Nat, (n' : Int) - a ≤ f' → findF s n' t' f' a = findF s n t f a) ∧
    ((findF s n t f a).1 = false → (n : Int) ≤ (findF s n t f a).2 ∧ 1 ≤ (findF s n t f a).2 ∧ ∀ f' f'' : Nat, (n' : Int) - a ≤ f' → (n' : Int) - (findF s n t f a).2 ≤ f'' → findF s n' t' f' a = findF s n' t' f'' (findF s n t f a).2) := by
  intro f
  induction f with
  | zero =>
    intro a h1 h2
    rw [findF_end (by omega)]
    exact ⟨fun h => (by cases h), fun _ => ⟨by show (n : Int) ≤ a; omega, h1, fun f' f'' h3 h4 => findF_fuel g n' t' f' f'' a h3 h4⟩⟩
  | succ f ih =>
    intro a h1 h2
    by_cases hlt : a < n
    · have hx' : nxt s t' a.toNat = nxt s t a.toNat := (nxt_congr fun i hi => ht i (by omega)).symm
      rw [findF, if_pos hlt]
      cases hx : nxt s t a.toNat with
      | none =>
        refine ⟨fun _ f' h3 => ?_, fun h => (by cases h)⟩
        obtain ⟨f', rfl⟩ : ∃ k, f' = k + 1 := ⟨f' - 1, by omega⟩
        rw [findF, if_pos (by omega), hx', hx]
      | some d =>
        have hd := nxt_pos g hx
        have hi := ih (a + d) (by omega) (by omega)
        refine ⟨fun h f' h3 => ?_, fun h => ⟨(hi.2 h).1, (hi.2 h).2.1, fun f' f'' h3 h4 => ?_⟩⟩
        · obtain ⟨f', rfl⟩ : ∃ k, f' = k + 1 := ⟨f' - 1, by omega⟩
          rw [findF, if_pos (by omega), hx', hx]
          exact hi.1 h f' (by omega)
        · obtain ⟨f', rfl⟩ : ∃ k, f' = k + 1 := ⟨f' - 1, by omega⟩
          rw [findF, if_pos (by omega), hx', hx]
          exact (hi.2 h).2.2 f' f'' (by omega) h4
    · rw [findF_end hlt]
      exact ⟨fun h => (by cases h), fun _ => ⟨by show (n : Int) ≤ a; omega, h1, fun f' f'' h3 h4 => findF_fuel g n' t' f' f'' a h3 h4⟩⟩

/-- FnWordSetFindResumes, in plain words. -/
theorem resumesR {s : WS} (g : s.Good) {n n' : Nat} {t t' : Nat → Int} (hn : n ≤ n') (ht : ∀ i, i < n → t i = t' i) (at0 : Int) :
    ((findR s n t at0).1 = true → findR s n' t' at0 = findR s n t at0) ∧
    ((findR s n t at0).1 = false → (n : Int) ≤ (findR s n t at0).2 ∧ findR s n' t' (findR s n t at0).2 = findR s n' t' at0) := by
  have h := resumes g hn ht n (max at0 1) (by omega) (by omega)
  refine ⟨fun h1 => h.1 h1 n' (by omega), fun h1 => ?_⟩
  obtain ⟨h2, h3, h4⟩ := h.2 h1
  refine ⟨h2, ?_⟩
  show findF s n' t' n' (max (findF s n t n (max at0 1)).2 1) = findF s n' t' n' (max at0 1)
  rw [show max (findF s n t n (max at0 1)).2 1 = (findF s n t n (max at0 1)).2 by omega]
  exact (h4 n' n' (by omega) (by omega)).symm

theorem findF_le {s : WS} (g : s.Good) (n : Nat) (t : Nat → Int) : ∀ (f : Nat) (a B : Int), a ≤ B → (n : Int) + 255 ≤ B → (findF s n t f a).2 ≤ B := by
  intro f
  induction f with
  | zero => intro a B h1 h2; exact h1
  | succ f ih =>
    intro a B h1 h2
    rw [findF]
    by_cases hlt : a < n
    · rw [if_pos hlt]
      cases hx : nxt s t a.toNat with
      | none => exact h1
      | some d =>
        refine ih (a + d) B ?_ h2
        unfold nxt at hx
        split at hx
        · injection hx with hx
          have := (g.sk0 (pr (t (a.toNat - 1)) (t a.toNat)).toNat).2
          omega
        · split at hx
          · cases hx
          · injection hx with hx
            have := (lastAg_bounds g (pr (t (a.toNat - 1)) (t a.toNat)) s.m).2
            omega
    · rw [if_neg hlt]; exact h1
end Go.Proofs.Qxb6601726a
