import Derived.Test.Qxb6601726aLeaf
namespace Go.Proofs.Qxb6601726a
open Go.ChangeShapes Go.WideShapes Go.ChangeAt Go.RowKit

/-- A word set as plain data: m words; word j has ln j bytes tx j; its last pair la j; its second skip ag j; the table sk. -/
structure WS where
  m : Nat
  sk : Nat → Int
  ln : Nat → Nat
  tx : Nat → Nat → Int
  la : Nat → Int
  ag : Nat → Int

structure WS.Good (s : WS) : Prop where
  sk0 : ∀ p, 0 ≤ s.sk p ∧ s.sk p ≤ 255
  ag0 : ∀ j, 1 ≤ s.ag j ∧ s.ag j ≤ 255
  ln0 : ∀ j, j < s.m → 2 ≤ s.ln j ∧ s.ln j ≤ 64
  tx0 : ∀ j k, 0 ≤ s.tx j k ∧ s.tx j k ≤ 255
  la0 : ∀ j, 0 ≤ s.la j ∧ s.la j ≤ 65535

theorem pr_bounds (x y : Int) (h1 : 0 ≤ x) (h2 : x ≤ 255) (h3 : 0 ≤ y) (h4 : y ≤ 255) : 0 ≤ pr x y ∧ pr x y < 65536 := by
  unfold pr
  have e1 := u16_or (x * 256) y (by omega) (by omega) h3 (by omega)
  have b1 : (x * 256).toNat ||| y.toNat < 2 ^ 16 := Nat.or_lt_two_pow (by omega) (by omega)
  rw [e1]
  have e2 := u16_or ((((x * 256).toNat ||| y.toNat : Nat)) : Int) 8224 (by omega) (by omega) (by omega) (by omega)
  rw [e2]
  have b2 : ((((x * 256).toNat ||| y.toNat : Nat) : Int).toNat ||| (8224 : Int).toNat) < 2 ^ 16 := Nat.or_lt_two_pow (by omega) (by decide)
  omega

def lastAg (s : WS) (p : Int) : Nat → Int
  | 0 => 1
  | j + 1 => if s.la j = p then s.ag j else lastAg s p j

/-- Does word j end at index a of the text. -/
def hit (s : WS) (t : Nat → Int) (a j : Nat) : Bool := ends t (a + 1) (s.tx j) (s.ln j)

def hitAny (s : WS) (t : Nat → Int) (a : Nat) (p : Int) (k : Nat) : Bool := (List.range k).any fun j => decide (s.la j = p) && hit s t a j

/-- One step of find at index a: none: a word ends here; some d: go on by d. -/
def nxt (s : WS) (t : Nat → Int) (a : Nat) : Option Int :=
  if 0 < s.sk (pr (t (a - 1)) (t a)).toNat then some (s.sk (pr (t (a - 1)) (t a)).toNat)
  else if hitAny s t a (pr (t (a - 1)) (t a)) s.m then none else some (lastAg s (pr (t (a - 1)) (t a)) s.m)

def findF (s : WS) (n : Nat) (t : Nat → Int) : Nat → Int → Bool × Int
  | 0, a => (false, a)
  | f + 1, a => if a < n then (match nxt s t a.toNat with | none => (true, a) | some d => findF s n t f (a + d)) else (false, a)

def findR (s : WS) (n : Nat) (t : Nat → Int) (a : Int) : Bool × Int := findF s n t n (max a 1)

theorem lastAg_bounds {s : WS} (g : s.Good) (p : Int) (k : Nat) : 1 ≤ lastAg s p k ∧ lastAg s p k ≤ 255 := by
  induction k with
  | zero => exact ⟨by simp [lastAg], by simp [lastAg]⟩
  | succ j ih =>
    unfold lastAg
    split
    · exact g.ag0 j
    · exact ih

theorem hitAny_succ (s : WS) (t : Nat → Int) (a : Nat) (p : Int) (k : Nat) : hitAny s t a p (k + 1) = (hitAny s t a p k || (decide (s.la k = p) && hit s t a k)) := by
  simp [hitAny, List.range_succ, List.any_append]

theorem hitAny_mono {s : WS} {t : Nat → Int} {a : Nat} {p : Int} {k m : Nat} (hk : k < m) (h1 : s.la k = p) (h2 : hit s t a k = true) : hitAny s t a p m = true := by
  unfold hitAny
  rw [List.any_eq_true]
  exact ⟨k, List.mem_range.2 hk, by simp [h1, h2]⟩

theorem findF_some {s : WS} {n : Nat} {t : Nat → Int} {f k : Nat} {d : Int} {R : Bool × Int} (h : (k : Int) + 1 < n) (hd : 1 ≤ d) (hf : (n : Int) - ((k : Int) + 1) ≤ f) (hx : nxt s t (k + 1) = some d)
    (hR : findF s n t f ((k : Int) + 1) = R) : ∃ f' : Nat, (n : Int) - ((k : Int) + 1 + d) ≤ f' ∧ findF s n t f' ((k : Int) + 1 + d) = R := by
  obtain ⟨f', rfl⟩ : ∃ f', f = f' + 1 := ⟨f - 1, by omega⟩
  refine ⟨f', by omega, ?_⟩
  rw [← hR, findF, if_pos h, show ((k : Int) + 1).toNat = k + 1 by omega, hx]

theorem findF_none {s : WS} {n : Nat} {t : Nat → Int} {f k : Nat} {R : Bool × Int} (h : (k : Int) + 1 < n) (hf : (n : Int) - ((k : Int) + 1) ≤ f) (hx : nxt s t (k + 1) = none)
    (hR : findF s n t f ((k : Int) + 1) = R) : R = (true, (k : Int) + 1) := by
  obtain ⟨f', rfl⟩ : ∃ f', f = f' + 1 := ⟨f - 1, by omega⟩
  rw [← hR, findF, if_pos h, show ((k : Int) + 1).toNat = k + 1 by omega, hx]

theorem findF_end {s : WS} {n : Nat} {t : Nat → Int} {f : Nat} {a : Int} (h : ¬ a < n) : findF s n t f a = (false, a) := by
  cases f with
  | zero => rfl
  | succ f => rw [findF, if_neg h]

end Go.Proofs.Qxb6601726a
