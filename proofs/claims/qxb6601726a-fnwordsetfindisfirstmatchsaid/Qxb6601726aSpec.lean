import Derived.Test.Qxb6601726aMid
namespace Go.Proofs.Qxb6601726a
open Go.ChangeShapes Go.WideShapes Go.ChangeAt Go.RowKit

/-- The pair of bytes that ends at index i of word j's last sh bytes. -/
def pairOf (ss : Nat → ByteArray) (sh : Nat) (j i : Nat) : Int := pr (bt (ss j) ((ss j).size - sh + (i - 1))) (bt (ss j) ((ss j).size - sh + i))

/-- What has been looked at: words before J whole, of word J the indexes before I. -/
def Pd (sh J I : Nat) (j i : Nat) : Prop := (j < J ∧ 1 ≤ i ∧ i < sh) ∨ (j = J ∧ 1 ≤ i ∧ i < I)

structure TabAt (sh : Nat) (P : Nat → Nat → Prop) (pf : Nat → Nat → Int) (p : Nat) (x : Int) : Prop where
  lo : 0 ≤ x
  hi : x ≤ (sh : Int) - 1
  all : ∀ j i, P j i → pf j i = (p : Int) → x ≤ (sh : Int) - 1 - i
  some : x = (sh : Int) - 1 ∨ ∃ j i, P j i ∧ pf j i = (p : Int) ∧ x = (sh : Int) - 1 - i

structure AgAt (sh : Nat) (P : Nat → Nat → Prop) (pf : Nat → Nat → Int) (la : Int) (x : Int) : Prop where
  lo : 1 ≤ x
  hi : x ≤ (sh : Int) - 1
  all : ∀ j i, P j i → i + 1 < sh → pf j i = la → x ≤ (sh : Int) - 1 - i
  some : x = (sh : Int) - 1 ∨ ∃ j i, P j i ∧ i + 1 < sh ∧ pf j i = la ∧ x = (sh : Int) - 1 - i

theorem Pd_one (sh J : Nat) : ∀ j i, Pd sh J 1 j i ↔ (j < J ∧ 1 ≤ i ∧ i < sh) := by
  intro j i; unfold Pd; omega
theorem Pd_succ (sh J I : Nat) (h1 : 1 ≤ I) : ∀ j i, Pd sh J (I + 1) j i ↔ (Pd sh J I j i ∨ (j = J ∧ i = I)) := by
  intro j i; unfold Pd; omega
theorem Pd_full (sh J : Nat) (hs : 1 ≤ sh) : ∀ j i, Pd sh (J + 1) 1 j i ↔ Pd sh J sh j i := by
  intro j i; unfold Pd; omega

theorem TabAt.cong {sh : Nat} {P P' : Nat → Nat → Prop} {pf : Nat → Nat → Int} {p : Nat} {x : Int} (h : TabAt sh P pf p x) (hP : ∀ j i, P' j i ↔ P j i) : TabAt sh P' pf p x :=
  ⟨h.lo, h.hi, fun j i hp => h.all j i ((hP j i).1 hp), h.some.imp id fun ⟨j, i, a, b⟩ => ⟨j, i, (hP j i).2 a, b⟩⟩
theorem AgAt.cong {sh : Nat} {P P' : Nat → Nat → Prop} {pf : Nat → Nat → Int} {la x : Int} (h : AgAt sh P pf la x) (hP : ∀ j i, P' j i ↔ P j i) : AgAt sh P' pf la x :=
  ⟨h.lo, h.hi, fun j i hp => h.all j i ((hP j i).1 hp), h.some.imp id fun ⟨j, i, a, b⟩ => ⟨j, i, (hP j i).2 a, b⟩⟩

theorem TabAt.start {sh : Nat} {P : Nat → Nat → Prop} {pf : Nat → Nat → Int} {p : Nat} (h : 1 ≤ sh) (hP : ∀ j i, ¬ P j i) : TabAt sh P pf p ((sh : Int) - 1) :=
  ⟨by omega, by omega, fun j i hp => absurd hp (hP j i), .inl rfl⟩
theorem AgAt.start {sh : Nat} {P : Nat → Nat → Prop} {pf : Nat → Nat → Int} {la : Int} (h : 2 ≤ sh) (hP : ∀ j i, ¬ P j i) : AgAt sh P pf la ((sh : Int) - 1) :=
  ⟨by omega, by omega, fun j i hp => absurd hp (hP j i), .inl rfl⟩

/-- One more place: the table at that place's pair. -/
theorem TabAt.hit {sh J I : Nat} {pf : Nat → Nat → Int} {p : Nat} {x : Int} (h : TabAt sh (Pd sh J I) pf p x) (h1 : 1 ≤ I) (hI : I < sh) (hp : pf J I = (p : Int)) : TabAt sh (Pd sh J (I + 1)) pf p (min x ((sh : Int) - 1 - I)) := by
  refine ⟨by have := h.lo; omega, by have := h.hi; omega, ?_, ?_⟩
  · intro j i hP hq
    rcases (Pd_succ sh J I h1 j i).1 hP with h2 | ⟨rfl, rfl⟩
    · have := h.all j i h2 hq; omega
    · omega
  · by_cases hx : x ≤ (sh : Int) - 1 - I
    · rw [show min x ((sh : Int) - 1 - I) = x by omega]
      exact h.some.imp id fun ⟨j, i, a, b⟩ => ⟨j, i, (Pd_succ sh J I h1 j i).2 (.inl a), b⟩
    · rw [show min x ((sh : Int) - 1 - I) = (sh : Int) - 1 - I by omega]
      exact .inr ⟨J, I, (Pd_succ sh J I h1 J I).2 (.inr ⟨rfl, rfl⟩), hp, rfl⟩
theorem TabAt.miss {sh J I : Nat} {pf : Nat → Nat → Int} {p : Nat} {x : Int} (h : TabAt sh (Pd sh J I) pf p x) (h1 : 1 ≤ I) (hp : pf J I ≠ (p : Int)) : TabAt sh (Pd sh J (I + 1)) pf p x := by
  refine ⟨h.lo, h.hi, ?_, h.some.imp id fun ⟨j, i, a, b⟩ => ⟨j, i, (Pd_succ sh J I h1 j i).2 (.inl a), b⟩⟩
  intro j i hP hq
  rcases (Pd_succ sh J I h1 j i).1 hP with h2 | ⟨rfl, rfl⟩
  · exact h.all j i h2 hq
  · exact absurd hq hp

theorem AgAt.hit {sh J I : Nat} {pf : Nat → Nat → Int} {la x : Int} (h : AgAt sh (Pd sh J I) pf la x) (h1 : 1 ≤ I) (hI : I + 1 < sh) (hp : pf J I = la) : AgAt sh (Pd sh J (I + 1)) pf la (min x ((sh : Int) - 1 - I)) := by
  refine ⟨by have := h.lo; omega, by have := h.hi; omega, ?_, ?_⟩
  · intro j i hP hi hq
    rcases (Pd_succ sh J I h1 j i).1 hP with h2 | ⟨rfl, rfl⟩
    · have := h.all j i h2 hi hq; omega
    · omega
  · by_cases hx : x ≤ (sh : Int) - 1 - I
    · rw [show min x ((sh : Int) - 1 - I) = x by omega]
      exact h.some.imp id fun ⟨j, i, a, b⟩ => ⟨j, i, (Pd_succ sh J I h1 j i).2 (.inl a), b⟩
    · rw [show min x ((sh : Int) - 1 - I) = (sh : Int) - 1 - I by omega]
      exact .inr ⟨J, I, (Pd_succ sh J I h1 J I).2 (.inr ⟨rfl, rfl⟩), hI, hp, rfl⟩
theorem AgAt.miss {sh J I : Nat} {pf : Nat → Nat → Int} {la x : Int} (h : AgAt sh (Pd sh J I) pf la x) (h1 : 1 ≤ I) (hp : pf J I ≠ la ∨ ¬ I + 1 < sh) : AgAt sh (Pd sh J (I + 1)) pf la x := by
  refine ⟨h.lo, h.hi, ?_, h.some.imp id fun ⟨j, i, a, b⟩ => ⟨j, i, (Pd_succ sh J I h1 j i).2 (.inl a), b⟩⟩
  intro j i hP hi hq
  rcases (Pd_succ sh J I h1 j i).1 hP with h2 | ⟨rfl, rfl⟩
  · exact h.all j i h2 hi hq
  · rcases hp with hp | hp
    · exact absurd hq hp
    · exact absurd hi hp

theorem shK_le (ss : Nat → ByteArray) (k : Nat) : shK ss k ≤ 64 := by
  induction k with
  | zero => simp [shK]
  | succ n ih => unfold shK; omega
theorem shK_ge (ss : Nat → ByteArray) (k : Nat) (h : ∀ i, i < k → 2 ≤ (ss i).size) : 2 ≤ shK ss k := by
  induction k with
  | zero => simp [shK]
  | succ n ih => unfold shK; have := ih (fun i hi => h i (by omega)); have := h n (by omega); omega
theorem shK_le_size (ss : Nat → ByteArray) (k j : Nat) (hj : j < k) : shK ss k ≤ (ss j).size := by
  induction k with
  | zero => omega
  | succ n ih =>
    unfold shK
    by_cases h : j = n
    · subst h; omega
    · have := ih (by omega); omega
end Go.Proofs.Qxb6601726a
