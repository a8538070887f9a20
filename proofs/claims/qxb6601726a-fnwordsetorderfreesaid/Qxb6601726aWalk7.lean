import Derived.Test.Qxb6601726aZzb
import Derived.Test.Qxb6601726aPlainO
namespace Go.Proofs.Qxb6601726a
open Go.ChangeShapes Go.WideShapes Go.ChangeAt Go.RowKit
set_option linter.unusedVariables false

/-- The words in reverse order, the first one again. -/
def otherW (len : Nat) (ss : Nat → ByteArray) (i : Nat) : ByteArray := if i < len then ss (len - 1 - i) else ss 0

theorem WordsAt.of_row {w : World} {g n : Nat} {ss : Nat → ByteArray} (h : Row w g 9 n (fun i => .string (ss i))) : WordsAt w (some ⟨g, 0, none⟩) g 0 n ss :=
  ⟨fun _ => rfl, fun i hi => by rw [Nat.zero_add]; exact h.cell hi⟩

theorem srow_put {w wr : World} {n k : Nat} {f g : Nat → ByteArray} {u : ByteArray} (hbel : Below w.heap.size w wr) (hrow : Row wr w.heap.size 9 n (fun i => .string (f i))) (hg : ∀ i, i < n → (if i = k then u else f i) = g i) :
    Below w.heap.size w (wr.setCell ⟨w.heap.size, k, none⟩ (.string u)) ∧ Row (wr.setCell ⟨w.heap.size, k, none⟩ (.string u)) w.heap.size 9 n (fun i => .string (g i)) := by
  refine ⟨hbel.setCell (Nat.le_refl _) _, (hrow.set k _).cong fun i hi => ?_⟩
  rw [← hg i hi]
  by_cases h : i = k <;> simp [h]

theorem other_fits {len : Nat} {ss : Nat → ByteArray} (h0 : 0 < len) (h : ∀ i, i < len → 2 ≤ (ss i).size ∧ (ss i).size ≤ 64) : ∀ i, i < len + 1 → 2 ≤ (otherW len ss i).size ∧ (otherW len ss i).size ≤ 64 := by
  intro i hi
  unfold otherW
  by_cases e : i < len
  · rw [if_pos e]; exact h _ (by omega)
  · rw [if_neg e]; exact h 0 h0
theorem other_to {len : Nat} {ss : Nat → ByteArray} : ∀ j, j < len → ∃ j', j' < len + 1 ∧ otherW len ss j' = ss j := by
  intro j hj
  refine ⟨len - 1 - j, by omega, ?_⟩
  unfold otherW
  rw [if_pos (by omega), show len - 1 - (len - 1 - j) = j by omega]
theorem other_from {len : Nat} {ss : Nat → ByteArray} (h0 : 0 < len) : ∀ j, j < len + 1 → ∃ j', j' < len ∧ ss j' = otherW len ss j := by
  intro j hj
  unfold otherW
  by_cases e : j < len
  · exact ⟨len - 1 - j, by omega, by rw [if_pos e]⟩
  · exact ⟨0, h0, by rw [if_neg e]⟩

set_option maxRecDepth 100000 in
set_option maxHeartbeats 4000000 in
theorem walk7 (ai : Option Addr) (b off len cap : Nat) (ss : Nat → ByteArray) (a1 : Option Addr) (b1 o1 n1 c1 : Nat) (t1 : Nat → Int) (at0 : Int) (w : World)
    (hW : WordsAt w ai b off len ss) (hlen : len ≤ 9223372036854775807) (hnil : ai = none → len = 0 ∧ cap = 0) (hsz : ∀ i, i < len → (ss i).size ≤ 9223372036854775807)
    (h1 : TextAt w a1 b1 o1 n1 c1 t1) (hnil1 : a1 = none → n1 = 0 ∧ c1 = 0) (hat : at0 ≤ 9223372036854775807) :
    Calls Try.prog 7 #[.slice ai len cap, .slice a1 n1 c1, .int .i64 at0] w fun e w' => e = .returned (.bool true) ∧ Below w.heap.size w w' := by
  have hn1 : n1 ≤ 9223372036854775807 := by have := h1.cap1; have := h1.cap2; omega
  have HW := hide hW
  have H1 := hide h1
  have HSZ := hide hsz
  have HN := hide hnil
  have HN1 := hide hnil1
  clear hW h1 hsz hnil hnil1
  go_enter Try.func7, Try.ntmps7
  go_wp2_with fail
  refine (bytes23_u ai b off len cap ss a1 n1 c1 at0 _ hlen hn1 (unhide HW) (unhide HSZ)).mono ?_
  rintro e w1 ⟨⟨r, rfl⟩, rfl⟩
  cases r
  · go_wp2
    go_ret
    exact ⟨rfl, Below.refl _ _⟩
  by_cases q1 : 256 < len
  · go_wp2
    go_ret
    exact ⟨rfl, Below.refl _ _⟩
  by_cases q2 : 65536 < n1
  · go_wp2
    go_ret
    exact ⟨rfl, Below.refl _ _⟩
  have g1 : decide ((256 : Int) < (len : Int)) = false := decide_eq_false (by omega)
  have g2 : decide ((65536 : Int) < (n1 : Int)) = false := decide_eq_false (by omega)
  go_wp2_with fail
  refine (wordBytes_u ai b off len cap ss _ (by omega) (unhide HW) (unhide HSZ)).mono ?_
  rintro e w1 ⟨⟨z, hz0, hz1, rfl⟩, rfl⟩
  by_cases q4 : 1048576 < z + n1
  · go_wp2
    go_ret
    exact ⟨rfl, Below.refl _ _⟩
  have g4 : decide ((1048576 : Int) < z + n1) = false := decide_eq_false (by omega)
  go_wp2_with fail
  refine (wordsFit_u ai b off len cap ss _ (by omega) (unhide HW) (unhide HSZ)).mono ?_
  rintro e w1 ⟨⟨r, hfit, rfl⟩, rfl⟩
  cases r
  · go_wp2
    go_ret
    exact ⟨rfl, Below.refl _ _⟩
  have HF := hide (hfit rfl)
  clear hfit
  go_wp2_with fail
  refine (cloneStrings_u ai b off len cap ss _ (by omega) (unhide HW) (unhide HN)).mono ?_
  rintro e w1 ⟨⟨ai', cap', rfl, hW1⟩, hb1⟩
  have HW1 := hide hW1
  have H11 := hide ((unhide H1).stays hb1)
  have HB1 := hide hb1
  clear hW1 hb1
  go_wp2_with fail
  refine (cloneBytes_u a1 b1 o1 n1 c1 t1 _ (by omega) (unhide H11) (unhide HN1)).mono ?_
  rintro e w3 ⟨⟨a1', c1', rfl, hT1⟩, hb2⟩
  have HW3 := hide ((unhide HW1).stays hb2)
  have HB3 := hide ((unhide HB1).trans (hb2.mono (unhide HB1).size))
  have HT13 := hide hT1
  clear hT1 hb2 HB1 HW1 H11
  obtain ⟨i0, hi, hz0', hz1', hz2⟩ := info_parts Try.info9
  by_cases h0 : len = 0
  · subst h0
    go_wp2_with (first | (at_make; refine wpList_make_full _ rfl _ _ 31 rfl w3.heap.size 9 i0 (.string ByteArray.empty) 1 Try.underlying31 hi hz0' hz1' _ _ _ _ 0 rfl rfl rfl rfl ?b1 ?b2 ?b3 ?_) | go_in)
    case b1 => omega
    case b2 => unfold maxLen; omega
    case b3 => simp
    intro w4 hown hgrow
    have hb4 : Below w3.heap.size w3 w4 := (Below.refl _ _).grown hgrow (Nat.le_refl _) (by simp)
    have HW4 := hide ((unhide HW3).stays hb4)
    have HT1 := hide ((unhide HT13).stays hb4)
    have HB4 := hide ((unhide HB3).trans (hb4.mono (unhide HB3).size))
    have HO : Hid (WordsAt w4 (some ⟨w3.heap.size, 0, none⟩) w3.heap.size 0 0 ss) := ⟨fun h => by omega, fun i hi => by omega⟩
    have HF2 := HF
    clear hb4 hown hgrow
    go_wp2
    refine wp_loop_rounds 1 ?_
    rw [rounds_succ]
    go_wp2_with fail
    refine (new_u (by omega) (unhide HW4) (unhide HF)).mono ?_
    rintro e w5 ⟨rfl, hb5, s, gw, cw, ao, tb, cp, lo, hset, hlies⟩
    have HSet := hide hset
    have HL5 := hide hlies
    have HO5 := hide ((unhide HO).stays hb5)
    have HT5 := hide ((unhide HT1).stays hb5)
    have HB5 := hide ((unhide HB4).trans (hb5.mono (unhide HB4).size))
    clear hset hlies hb5
    go_wp2_with fail
    refine (find_u at0 (unhide HL5) (unhide HSet).good (by omega) (unhide HT5) hat).mono ?_
    rintro e w6 ⟨rfl, hb6⟩
    have HO6 := hide ((unhide HO5).stays hb6)
    have HT6 := hide ((unhide HT5).stays hb6)
    have HB6 := hide ((unhide HB5).trans (hb6.mono (unhide HB5).size))
    clear hb6
    go_wp2_with fail
    refine (new_u (by omega) (unhide HO6) (unhide HF2)).mono ?_
    rintro e w7 ⟨rfl, hb7, s', gw', cw', ao', tb', cp', lo', hset', hlies'⟩
    have HSet' := hide hset'
    have HL7 := hide hlies'
    have HT7 := hide ((unhide HT6).stays hb7)
    have HB7 := hide ((unhide HB6).trans (hb7.mono (unhide HB6).size))
    clear hset' hlies' hb7
    go_wp2_with fail
    refine (find_u at0 (unhide HL7) (unhide HSet').good (by omega) (unhide HT7) hat).mono ?_
    rintro e w8 ⟨rfl, hb8⟩
    have HB8 := hide ((unhide HB7).trans (hb8.mono (unhide HB7).size))
    clear hb8
    have heq := findR_sets (unhide HSet) (unhide HSet') (fun i hi => (unhide HF i hi).1) (fun i hi => (unhide HF2 i hi).1) (fun j hj => by omega) (fun j hj => by omega) (unhide HT7).bytes n1 at0
    rw [heq]
    clear heq
    generalize findR s' n1 t1 at0 = R
    obtain ⟨f2, e2⟩ := R
    have q5 : (f2 == f2) = true := by simp
    have q6 : (e2 == e2) = true := by simp
    go_wp2
    go_ret
    exact ⟨by simp, unhide HB8⟩
  have hpos : (0 : Int) < (len : Int) := by omega
  have ha := (unhide HW3).at0 (by omega)
  subst ha
  go_wp2_with (first | (at_make; refine wpList_make_full _ rfl _ _ 31 rfl w3.heap.size 9 i0 (.string ByteArray.empty) 1 Try.underlying31 hi hz0' hz1' _ _ _ _ (len + 1) rfl rfl (by omega) (by omega) ?b1 ?b2 ?b3 ?_) | go_in)
  case b1 => rw [hz2]; omega
  case b2 => unfold maxLen; omega
  case b3 => simp
  intro w4 hown hgrow
  have HR0 := hide (Row.make hown)
  have HBl0 : Hid (Below w3.heap.size w3 w4) := (Below.refl _ _).grown hgrow (Nat.le_refl _) (by simp)
  clear hown hgrow
  go_wp2
  go_loopw [9] (fun q wr => ∃ k : Nat, k ≤ len ∧ q = .int .i64 k ∧ Below w3.heap.size w3 wr ∧ Row wr w3.heap.size 9 (len + 1) (fun i => .string (if i < k then otherW len ss i else ByteArray.empty)))
    (fun q _ => len - (intOf q).toNat)
  case atStart => exact ⟨0, Nat.zero_le _, rfl, unhide HBl0, (unhide HR0).cong (by simp)⟩
  case round =>
    obtain ⟨k, hk, rfl, hbel, hrow⟩ := hrel
    clear HR0 HBl0
    by_cases hlt : k < len
    · have hck := ((unhide HW3).stays hbel).cells (len - 1 - k) (by omega)
      have df := hrow.free k
      have dk := hrow.cell (j := k) (by omega)
      simp at dk
      have HB := hide hbel
      have HR := hide hrow
      clear hbel hrow
      simp only [Nat.zero_add] at hck
      have g5 : (0 : Int) ≤ (len : Int) - 1 - (k : Int) := by omega
      have g6 : (len : Int) - 1 - (k : Int) < (len : Int) := by omega
      go_wp2
      go_roundw
      case rel =>
        refine ⟨k + 1, by omega, by go_num, ?_⟩
        refine srow_put (unhide HB) (unhide HR) fun i hi => ?_
        by_cases e : i = k
        · subst e; simp [otherW, hlt]
        · by_cases e2 : i < k
          · simp [e, e2]; omega
          · simp [e, e2]; omega
      case measure => simp [intOf]; omega
    · obtain rfl : k = len := by omega
      have hck := ((unhide HW3).stays hbel).cells 0 (by omega)
      have df := hrow.free k
      have dk := hrow.cell (j := k) (by omega)
      simp at dk
      simp only [Nat.zero_add] at hck
      have HB := hide hbel
      have HR := hide hrow
      clear hbel hrow
      have HO : Hid (WordsAt (wr.setCell ⟨w3.heap.size, k, none⟩ (.string (ss 0))) (some ⟨w3.heap.size, 0, none⟩) w3.heap.size 0 (k + 1) (otherW k ss)) := WordsAt.of_row (srow_put (unhide HB) (unhide HR) fun i hi => by
        by_cases e : i = k
        · subst e; simp [otherW]
        · have e2 : i < k := by omega
          simp [e, e2]).2
      have hb4 : Below w3.heap.size w3 (wr.setCell ⟨w3.heap.size, k, none⟩ (.string (ss 0))) := (unhide HB).setCell (Nat.le_refl _) _
      have HW4 := hide ((unhide HW3).stays hb4)
      have HT1 := hide ((unhide HT13).stays hb4)
      have HB4 := hide ((unhide HB3).trans (hb4.mono (unhide HB3).size))
      have HF2 := hide (other_fits (by omega) (unhide HF))
      clear hb4
      go_wp2_with fail
      clear HB HR
      generalize hwz : wr.setCell ⟨w3.heap.size, k, none⟩ (.string (ss 0)) = wz at *
      clear hwz
      refine (new_u (by omega) (unhide HW4) (unhide HF)).mono ?_
      rintro e w5 ⟨rfl, hb5, s, gw, cw, ao, tb, cp, lo, hset, hlies⟩
      have HSet := hide hset
      have HL5 := hide hlies
      have HO5 := hide ((unhide HO).stays hb5)
      have HT5 := hide ((unhide HT1).stays hb5)
      have HB5 := hide ((unhide HB4).trans (hb5.mono (unhide HB4).size))
      clear hset hlies hb5
      go_wp2_with fail
      refine (find_u at0 (unhide HL5) (unhide HSet).good (by omega) (unhide HT5) hat).mono ?_
      rintro e w6 ⟨rfl, hb6⟩
      have HO6 := hide ((unhide HO5).stays hb6)
      have HT6 := hide ((unhide HT5).stays hb6)
      have HB6 := hide ((unhide HB5).trans (hb6.mono (unhide HB5).size))
      clear hb6
      go_wp2_with fail
      refine (new_u (by omega) (unhide HO6) (unhide HF2)).mono ?_
      rintro e w7 ⟨rfl, hb7, s', gw', cw', ao', tb', cp', lo', hset', hlies'⟩
      have HSet' := hide hset'
      have HL7 := hide hlies'
      have HT7 := hide ((unhide HT6).stays hb7)
      have HB7 := hide ((unhide HB6).trans (hb7.mono (unhide HB6).size))
      clear hset' hlies' hb7
      go_wp2_with fail
      refine (find_u at0 (unhide HL7) (unhide HSet').good (by omega) (unhide HT7) hat).mono ?_
      rintro e w8 ⟨rfl, hb8⟩
      have HB8 := hide ((unhide HB7).trans (hb8.mono (unhide HB7).size))
      clear hb8
      have heq := findR_sets (unhide HSet) (unhide HSet') (fun i hi => (unhide HF i hi).1) (fun i hi => (unhide HF2 i hi).1) other_to (other_from (by omega)) (unhide HT7).bytes n1 at0
      rw [heq]
      clear heq
      generalize findR s' n1 t1 at0 = R
      obtain ⟨f2, e2⟩ := R
      have q5 : (f2 == f2) = true := by simp
      have q6 : (e2 == e2) = true := by simp
      go_wp2
      go_ret
      exact ⟨by simp, unhide HB8⟩
end Go.Proofs.Qxb6601726a
