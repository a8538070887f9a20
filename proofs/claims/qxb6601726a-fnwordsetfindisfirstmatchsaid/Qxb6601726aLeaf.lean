import Derived.Test.Qxb6601726aMem
import Derived.RegionTactic
import Derived.ChangeAlike
import Derived.Deep.QuietTactic
import Derived.BigQuiet
import Derived.Outline
namespace Go.Proofs.Qxb6601726a
open Go.ChangeShapes Go.WideShapes Go.ChangeAt Go.RowKit
set_option linter.unusedVariables false

/-- What pairAt makes of two bytes. -/
def pr (x y : Int) : Int := bits .or .u16 (bits .or .u16 (x * 256) y) 8224
/-- Does the text's byte c stand for the word's byte v. -/
def mt (c v : Int) : Bool := (c == v) || ((bits .or .u8 c 32 == v) && (decide (97 ≤ v) && decide (v ≤ 122)))
/-- Does the text t of length n end with the word wd of length m. -/
def ends (t : Nat → Int) (n : Nat) (wd : Nat → Int) (m : Nat) : Bool := decide (m ≤ n) && (List.range m).all fun k => mt (t (n - m + k)) (wd k)

theorem ret_u16 {a b : Int} (h : a = b) : Ending.returned (.int .u16 a) = .returned (.int .u16 b) := by rw [h]
theorem ret_bool {a b : Bool} (h : a = b) : Ending.returned (.bool a) = .returned (.bool b) := by rw [h]

theorem pairAt_any (b off n cap : Nat) (i : Int) (k : Nat) (x y : Int) (w : World) (hik : i = (k : Int) + 1) (hin : k + 1 < n) (hn : n ≤ 1048576)
    (hx : w.cell? ⟨b, off + k, none⟩ = some (.int .u8 x)) (hy : w.cell? ⟨b, off + (k + 1), none⟩ = some (.int .u8 y))
    (x0 : 0 ≤ x) (x1 : x ≤ 255) (y0 : 0 ≤ y) (y1 : y ≤ 255) :
    Calls Try.prog 31 #[.slice (some ⟨b, off, none⟩) n cap, .int .i64 i] w fun e w' => e = .returned (.int .u16 (pr x y)) ∧ ∃ nq, w' = w.drewN nq := by
  obtain rfl : i = ((k + 1 : Nat) : Int) := by omega
  have g0 : (0 : Int) ≤ (k : Int) := by omega
  have g1 : (k : Int) < (n : Int) := by omega
  have g2 : (k : Int) + 1 < (n : Int) := by omega
  clear hik
  go_enter Try.func31, Try.ntmps31
  go_wp2
  go_quiet (fail)
  go_wp2
  go_ret
  exact ⟨ret_u16 rfl, _, rfl⟩

theorem endsWith_short (a1 a2 : Option Addr) (n ct m cw : Nat) (w : World) (hn : n ≤ 1048576) (hm : m ≤ 64) (h : n < m) :
    Calls Try.prog 32 #[.slice a1 n ct, .slice a2 m cw] w fun e w' => e = .returned (.bool false) ∧ ∃ nq, w' = w.drewN nq := by
  go_enter Try.func32, Try.ntmps32
  go_wp2
  go_ret
  exact ⟨rfl, 0, rfl⟩

theorem ends_yes {t wd : Nat → Int} {d m : Nat} (h : ∀ j, 0 ≤ j → j < m → mt (t (d + j)) (wd j) = true) : ends t (d + m) wd m = true := by
  unfold ends
  rw [Bool.and_eq_true, decide_eq_true_iff, List.all_eq_true]
  refine ⟨by omega, fun k hk => ?_⟩
  rw [Nat.add_sub_cancel]
  exact h k (Nat.zero_le _) (List.mem_range.1 hk)

theorem ends_no {t wd : Nat → Int} {d m q : Nat} (hq : q < m) (h : mt (t (d + q)) (wd q) = false) : ends t (d + m) wd m = false := by
  unfold ends
  rw [Bool.and_eq_false_iff]
  right
  rw [List.all_eq_false]
  exact ⟨q, List.mem_range.2 hq, by rw [Nat.add_sub_cancel, h]; simp⟩

theorem ends_more {t wd : Nat → Int} {d m q : Nat} {x y : Int} (hall : ∀ j, q + 1 ≤ j → j < m → mt (t (d + j)) (wd j) = true) (hx : x = t (d + q)) (hy : y = wd q) (h : mt x y = true) :
    ∀ j, q ≤ j → j < m → mt (t (d + j)) (wd j) = true := by
  intro j h1 h2
  by_cases e : j = q
  · subst e; rw [← hx, ← hy]; exact h
  · exact hall j (by omega) h2

theorem mt_cases (c v : Int) : ((c != v) = false ∧ mt c v = true) ∨ ((c != v) = true ∧ (bits .or .u8 c 32 != v) = true ∧ mt c v = false) ∨
    ((c != v) = true ∧ (bits .or .u8 c 32 != v) = false ∧ v < 97 ∧ mt c v = false) ∨ ((c != v) = true ∧ (bits .or .u8 c 32 != v) = false ∧ 97 ≤ v ∧ 122 < v ∧ mt c v = false) ∨
    ((c != v) = true ∧ (bits .or .u8 c 32 != v) = false ∧ 97 ≤ v ∧ v ≤ 122 ∧ mt c v = true) := by
  unfold mt bne
  by_cases h1 : (c == v) = true
  · exact .inl ⟨by rw [h1]; rfl, by rw [h1]; rfl⟩
  · have h1' : (c == v) = false := by simpa using h1
    rw [h1']
    by_cases h2 : (bits .or .u8 c 32 == v) = true
    · rw [h2]
      by_cases h3 : v < 97
      · exact .inr (.inr (.inl ⟨rfl, rfl, h3, by simp; omega⟩))
      · by_cases h4 : 122 < v
        · exact .inr (.inr (.inr (.inl ⟨rfl, rfl, by omega, h4, by simp; omega⟩)))
        · exact .inr (.inr (.inr (.inr ⟨rfl, rfl, by omega, by omega, by simp; omega⟩)))
    · have h2' : (bits .or .u8 c 32 == v) = false := by simpa using h2
      rw [h2']
      exact .inr (.inl ⟨rfl, rfl, rfl⟩)

set_option maxHeartbeats 1000000 in
theorem endsWith_long (bt ot d ct bw ow m cw : Nat) (t wd : Nat → Int) (w : World) (hn : d + m ≤ 1048576) (hc : d + m ≤ ct) (hct : ct ≤ 9223372036854775807) (hm : m ≤ 64) (hm1 : 1 ≤ m)
    (ht : ∀ i, i < d + m → w.cell? ⟨bt, ot + i, none⟩ = some (.int .u8 (t i))) (hw : ∀ i, i < m → w.cell? ⟨bw, ow + i, none⟩ = some (.int .u8 (wd i)))
    (t0 : ∀ i, 0 ≤ t i ∧ t i ≤ 255) (w0 : ∀ i, 0 ≤ wd i ∧ wd i ≤ 255) :
    Calls Try.prog 32 #[.slice (some ⟨bt, ot, none⟩) (d + m) ct, .slice (some ⟨bw, ow, none⟩) m cw] w fun e w' => e = .returned (.bool (ends t (d + m) wd m)) ∧ ∃ nq, w' = w.drewN nq := by
  go_enter Try.func32, Try.ntmps32
  go_wp2
  go_loopw [5] (fun i wr => ∃ k : Nat, k ≤ m ∧ i = .int .i64 ((k : Int) - 1) ∧ (∀ j, k ≤ j → j < m → mt (t (d + j)) (wd j) = true) ∧ ∃ nq, wr = w.drewN nq)
    (fun i _ => (intOf i + 1).toNat)
  case atStart => exact ⟨m, Nat.le_refl _, rfl, fun j h1 h2 => by omega, 0, rfl⟩
  case round =>
    obtain ⟨k, hk, rfl, hall, nq0, rfl⟩ := hrel
    rcases k with _ | q
    · have HA := hide hall
      clear hall
      go_wp2
      go_ret
      exact ⟨ret_bool (ends_yes (unhide HA)).symm, _, rfl⟩
    · have HA := hide hall
      clear hall
      have c1 := ht (d + q) (by omega)
      rw [← Nat.add_assoc] at c1
      have c2 := hw q (by omega)
      obtain ⟨x, hx⟩ : ∃ x, x = t (d + q) := ⟨_, rfl⟩
      obtain ⟨y, hy⟩ : ∃ y, y = wd q := ⟨_, rfl⟩
      rw [← hx] at c1
      rw [← hy] at c2
      have hxr := t0 (d + q)
      have hyr := w0 q
      rw [← hx] at hxr
      rw [← hy] at hyr
      obtain ⟨hx0, hx1⟩ := hxr
      obtain ⟨hy0, hy1⟩ := hyr
      have HX := hide hx
      have HY := hide hy
      clear hx hy
      have g1 : (q : Int) < (m : Int) := by omega
      rcases mt_cases x y with ⟨e1, e2⟩ | ⟨e1, e2, e3⟩ | ⟨e1, e2, e3, e4⟩ | ⟨e1, e2, e3, e4, e5⟩ | ⟨e1, e2, e3, e4, e5⟩
      · have HE := hide e2
        clear e2
        go_wp2
        go_quiet (fail)
        go_wp2
        go_roundw
        case rel => exact ⟨q, by omega, rfl, ends_more (unhide HA) (unhide HX) (unhide HY) (unhide HE), _, rfl⟩
        case measure => simp [intOf]
      · have HE := hide e3
        clear e3
        go_wp2
        go_quiet (fail)
        go_wp2
        go_ret
        exact ⟨ret_bool (ends_no (show q < m by omega) (by rw [← unhide HX, ← unhide HY]; exact unhide HE)).symm, _, rfl⟩
      · have HE := hide e4
        clear e4
        go_wp2
        go_quiet (fail)
        go_wp2
        go_ret
        exact ⟨ret_bool (ends_no (show q < m by omega) (by rw [← unhide HX, ← unhide HY]; exact unhide HE)).symm, _, rfl⟩
      · have HE := hide e5
        clear e5
        go_wp2
        go_quiet (fail)
        go_wp2
        go_ret
        exact ⟨ret_bool (ends_no (show q < m by omega) (by rw [← unhide HX, ← unhide HY]; exact unhide HE)).symm, _, rfl⟩
      · have HE := hide e5
        clear e5
        go_wp2
        go_quiet (fail)
        go_wp2
        go_roundw
        case rel => exact ⟨q, by omega, rfl, ends_more (unhide HA) (unhide HX) (unhide HY) (unhide HE), _, rfl⟩
        case measure => simp [intOf]

theorem endsWith_any (bt ot n ct bw ow m cw : Nat) (t wd : Nat → Int) (w : World) (hn : n ≤ 1048576) (hc : n ≤ ct) (hct : ct ≤ 9223372036854775807) (hm : m ≤ 64) (hm1 : 1 ≤ m)
    (ht : ∀ i, i < n → w.cell? ⟨bt, ot + i, none⟩ = some (.int .u8 (t i))) (hw : ∀ i, i < m → w.cell? ⟨bw, ow + i, none⟩ = some (.int .u8 (wd i)))
    (t0 : ∀ i, 0 ≤ t i ∧ t i ≤ 255) (w0 : ∀ i, 0 ≤ wd i ∧ wd i ≤ 255) :
    Calls Try.prog 32 #[.slice (some ⟨bt, ot, none⟩) n ct, .slice (some ⟨bw, ow, none⟩) m cw] w fun e w' => e = .returned (.bool (ends t n wd m)) ∧ ∃ nq, w' = w.drewN nq := by
  by_cases h : n < m
  · have e : ends t n wd m = false := by simp [ends]; omega
    rw [e]
    exact endsWith_short _ _ n ct m cw w hn hm h
  · obtain ⟨d, rfl⟩ : ∃ d, n = d + m := ⟨n - m, by omega⟩
    exact endsWith_long bt ot d ct bw ow m cw t wd w hn hc hct hm hm1 ht hw t0 w0
end Go.Proofs.Qxb6601726a
