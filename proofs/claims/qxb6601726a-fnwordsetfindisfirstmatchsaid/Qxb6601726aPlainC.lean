import Derived.Test.Qxb6601726aPlainR
namespace Go.Proofs.Qxb6601726a
open Go.ChangeShapes Go.WideShapes Go.ChangeAt Go.RowKit

/-- zzSwapCase of one byte. -/
def swapC (c : Int) : Int := if 97 ≤ c ∧ c ≤ 122 then c - 32 else if 65 ≤ c ∧ c ≤ 90 then c + 32 else c

theorem swapC_bounds {c : Int} (h : 0 ≤ c ∧ c ≤ 255) : 0 ≤ swapC c ∧ swapC c ≤ 255 := by
  unfold swapC
  split
  · omega
  · split <;> omega

theorem or_low : ∀ X : Nat, X < 256 → (65 ≤ X ∧ X ≤ 90 → X ||| 32 = X + 32) ∧ (97 ≤ X ∧ X ≤ 122 → X ||| 32 = X) := by decide +kernel

theorem pr_nat (X Y : Nat) (hX : X < 256) (hY : Y < 256) : pr (X : Int) (Y : Int) = (((X ||| 32) * 256 ||| (Y ||| 32) : Nat) : Int) := by
  unfold pr
  rw [show (X : Int) * 256 = ((X * 256 : Nat) : Int) by omega, u16_or_nat _ _ (by omega) (by omega)]
  have hb : X * 256 ||| Y < 2 ^ 16 := Nat.or_lt_two_pow (by omega) (by omega)
  rw [show (8224 : Int) = ((8224 : Nat) : Int) from rfl, u16_or_nat _ _ (by omega) (by omega)]
  congr 1
  have e1 : (8224 : Nat) = 32 * 256 ||| 32 := by decide
  have e2 : ∀ A : Nat, A * 256 = A <<< 8 := fun A => by rw [Nat.shiftLeft_eq]
  rw [e1, e2 X, e2 32, e2 (X ||| 32), Nat.shiftLeft_or_distrib]
  rw [Nat.or_assoc, Nat.or_assoc, ← Nat.or_assoc Y, Nat.or_comm Y (32 <<< 8), Nat.or_assoc]

theorem pr_same {x y x' y' : Int} (hx : 0 ≤ x ∧ x ≤ 255) (hy : 0 ≤ y ∧ y ≤ 255) (hx' : 0 ≤ x' ∧ x' ≤ 255) (hy' : 0 ≤ y' ∧ y' ≤ 255) (h1 : x.toNat ||| 32 = x'.toNat ||| 32) (h2 : y.toNat ||| 32 = y'.toNat ||| 32) : pr x y = pr x' y' := by
  have e := pr_nat x.toNat y.toNat (by omega) (by omega)
  have e' := pr_nat x'.toNat y'.toNat (by omega) (by omega)
  rw [show ((x.toNat : Nat) : Int) = x by omega, show ((y.toNat : Nat) : Int) = y by omega] at e
  rw [show ((x'.toNat : Nat) : Int) = x' by omega, show ((y'.toNat : Nat) : Int) = y' by omega] at e'
  rw [e, e', h1, h2]

theorem swapC_or {c : Int} (h : 0 ≤ c ∧ c ≤ 255) : (swapC c).toNat ||| 32 = c.toNat ||| 32 := by
  unfold swapC
  have h0 := or_low c.toNat (by omega)
  by_cases h1 : 97 ≤ c ∧ c ≤ 122
  · rw [if_pos h1]
    have h2 := or_low (c - 32).toNat (by omega)
    rw [h2.1 (by omega), h0.2 (by omega)]
    omega
  · rw [if_neg h1]
    by_cases h2 : 65 ≤ c ∧ c ≤ 90
    · rw [if_pos h2]
      have h3 := or_low (c + 32).toNat (by omega)
      rw [h3.2 (by omega), h0.1 (by omega)]
      omega
    · rw [if_neg h2]

theorem mt_or {c v : Int} (h : 0 ≤ c ∧ c ≤ 255) : mt c v = ((c == v) || ((((c.toNat ||| 32 : Nat) : Int) == v) && (decide (97 ≤ v) && decide (v ≤ 122)))) := by
  unfold mt
  rw [u8_or c 32 h.1 (by omega) (by omega) (by omega)]
  rfl

theorem mt_swap {c v : Int} (h : 0 ≤ c ∧ c ≤ 255) (hv : ¬ (65 ≤ v ∧ v ≤ 90)) : mt (swapC c) v = mt c v := by
  rw [mt_or h, mt_or (swapC_bounds h), swapC_or h]
  have h0 := or_low c.toNat (by omega)
  generalize hL : c.toNat ||| 32 = L at *
  unfold swapC
  by_cases h1 : 97 ≤ c ∧ c ≤ 122
  · have hL1 := h0.2 (by omega)
    rw [if_pos h1, Bool.eq_iff_iff]
    simp
    omega
  · rw [if_neg h1]
    by_cases h2 : 65 ≤ c ∧ c ≤ 90
    · have hL1 := h0.1 (by omega)
      rw [if_pos h2, Bool.eq_iff_iff]
      simp
      omega
    · rw [if_neg h2]

theorem ends_swap {t wd : Nat → Int} {n m : Nat} (ht : ∀ i, 0 ≤ t i ∧ t i ≤ 255) (hw : ∀ k, k < m → ¬ (65 ≤ wd k ∧ wd k ≤ 90)) : ends (fun i => swapC (t i)) n wd m = ends t n wd m := by
  unfold ends
  congr 1
  rw [Bool.eq_iff_iff, List.all_eq_true, List.all_eq_true]
  constructor
  · intro hh k hk
    have := hh k hk
    rw [mt_swap (ht _) (hw k (List.mem_range.1 hk))] at this
    exact this
  · intro hh k hk
    rw [mt_swap (ht _) (hw k (List.mem_range.1 hk))]
    exact hh k hk

theorem nxt_swap {s : WS} {t : Nat → Int} (ht : ∀ i, 0 ≤ t i ∧ t i ≤ 255) (hw : ∀ j, j < s.m → ∀ k, k < s.ln j → ¬ (65 ≤ s.tx j k ∧ s.tx j k ≤ 90)) (a : Nat) : nxt s (fun i => swapC (t i)) a = nxt s t a := by
  unfold nxt
  have e : pr (swapC (t (a - 1))) (swapC (t a)) = pr (t (a - 1)) (t a) := pr_same (swapC_bounds (ht _)) (swapC_bounds (ht _)) (ht _) (ht _) (swapC_or (ht _)) (swapC_or (ht _))
  show (if 0 < s.sk (pr (swapC (t (a - 1))) (swapC (t a))).toNat then some (s.sk (pr (swapC (t (a - 1))) (swapC (t a))).toNat)
    else if hitAny s (fun i => swapC (t i)) a (pr (swapC (t (a - 1))) (swapC (t a))) s.m then none else some (lastAg s (pr (swapC (t (a - 1))) (swapC (t a))) s.m)) = _
  rw [e, hitAny_congr (t := fun i => swapC (t i)) (t' := t) fun j hj => ends_swap ht (hw j hj)]

theorem findR_swap {s : WS} {t : Nat → Int} (ht : ∀ i, 0 ≤ t i ∧ t i ≤ 255) (hw : ∀ j, j < s.m → ∀ k, k < s.ln j → ¬ (65 ≤ s.tx j k ∧ s.tx j k ≤ 90)) (n : Nat) (at0 : Int) : findR s n (fun i => swapC (t i)) at0 = findR s n t at0 := by
  have h : ∀ (f : Nat) (a : Int), findF s n (fun i => swapC (t i)) f a = findF s n t f a := by
    intro f
    induction f with
    | zero => intro a; rfl
    | succ f ih =>
      intro a
      rw [findF, findF, nxt_swap ht hw a.toNat]
      by_cases hlt : a < n
      · rw [if_pos hlt, if_pos hlt]
        cases nxt s t a.toNat with
        | none => rfl
        | some d => exact ih (a + d)
      · rw [if_neg hlt, if_neg hlt]
  exact h n _
end Go.Proofs.Qxb6601726a
