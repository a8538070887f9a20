import Derived.Test.Qxb6601726aZzb
import Derived.Test.Qxb6601726aPlainR
namespace Go.Proofs.Qxb6601726a
open Go.ChangeShapes Go.WideShapes Go.ChangeAt Go.RowKit
set_option linter.unusedVariables false

def joinT (n1 : Nat) (t1 t2 : Nat → Int) (i : Nat) : Int := if i < n1 then t1 i else t2 (i - n1)

theorem TextAt.of_row {w : World} {g n : Nat} {t : Nat → Int} (hn : n ≤ 1048576) (h : Row w g 5 n (fun i => .int .u8 (t i))) (ht : ∀ i, 0 ≤ t i ∧ t i ≤ 255) : TextAt w (some ⟨g, 0, none⟩) g 0 n n t :=
  ⟨Nat.le_refl _, by omega, fun _ => rfl, fun i hi => by rw [Nat.zero_add]; exact h.cell hi, ht⟩

theorem row_put {w wr : World} {n k : Nat} {f g : Nat → Int} {u : Int} (hbel : Below w.heap.size w wr) (hrow : Row wr w.heap.size 5 n (fun i => .int .u8 (f i))) (hg : ∀ i, i < n → (if i = k then u else f i) = g i) :
    Below w.heap.size w (wr.setCell ⟨w.heap.size, k, none⟩ (.int .u8 u)) ∧ Row (wr.setCell ⟨w.heap.size, k, none⟩ (.int .u8 u)) w.heap.size 5 n (fun i => .int .u8 (g i)) := by
  refine ⟨hbel.setCell (Nat.le_refl _) _, (hrow.set k _).cong fun i hi => ?_⟩
  rw [← hg i hi]
  by_cases h : i = k <;> simp [h]

set_option maxRecDepth 100000 in
set_option maxHeartbeats 4000000 in
theorem walk6 (ai : Option Addr) (b off len cap : Nat) (ss : Nat → ByteArray) (a1 : Option Addr) (b1 o1 n1 c1 : Nat) (t1 : Nat → Int) (a2 : Option Addr) (b2 o2 n2 c2 : Nat) (t2 : Nat → Int) (at0 : Int) (w : World)
    (hW : WordsAt w ai b off len ss) (hlen : len ≤ 9223372036854775807) (hnil : ai = none → len = 0 ∧ cap = 0) (hsz : ∀ i, i < len → (ss i).size ≤ 9223372036854775807)
    (h1 : TextAt w a1 b1 o1 n1 c1 t1) (hnil1 : a1 = none → n1 = 0 ∧ c1 = 0) (h2 : TextAt w a2 b2 o2 n2 c2 t2) (hnil2 : a2 = none → n2 = 0 ∧ c2 = 0) (hat : at0 ≤ 9223372036854775807) :
    Calls Try.prog 6 #[.slice ai len cap, .slice a1 n1 c1, .slice a2 n2 c2, .int .i64 at0] w fun e w' => e = .returned (.bool true) ∧ Below w.heap.size w w' := by
  have hn1 : n1 ≤ 9223372036854775807 := by have := h1.cap1; have := h1.cap2; omega
  have hn2 : n2 ≤ 9223372036854775807 := by have := h2.cap1; have := h2.cap2; omega
  have HW := hide hW
  have H1 := hide h1
  have H2 := hide h2
  have HSZ := hide hsz
  have HN := hide hnil
  have HN1 := hide hnil1
  have HN2 := hide hnil2
  clear hW h1 h2 hsz hnil hnil1 hnil2
  go_enter Try.func6, Try.ntmps6
  go_wp2_with fail
  refine (bytes22_u ai b off len cap ss a1 n1 c1 a2 n2 c2 at0 _ hlen hn1 hn2 (unhide HW) (unhide HSZ)).mono ?_
  rintro e w1 ⟨⟨r, rfl⟩, rfl⟩
  cases r
  · go_wp2
    go_ret
    exact ⟨rfl, Below.refl _ _⟩
  by_cases q1 : 256 < len
  · go_wp2
    go_ret
    exact ⟨rfl, Below.refl _ _⟩
  by_cases q2 : 65536 < n1
  · go_wp2
    go_ret
    exact ⟨rfl, Below.refl _ _⟩
  by_cases q3 : 65536 < n2
  · go_wp2
    go_ret
    exact ⟨rfl, Below.refl _ _⟩
  have g1 : decide ((256 : Int) < (len : Int)) = false := decide_eq_false (by omega)
  have g2 : decide ((65536 : Int) < (n1 : Int)) = false := decide_eq_false (by omega)
  have g3 : decide ((65536 : Int) < (n2 : Int)) = false := decide_eq_false (by omega)
  go_wp2_with fail
  refine (wordBytes_u ai b off len cap ss _ (by omega) (unhide HW) (unhide HSZ)).mono ?_
  rintro e w1 ⟨⟨z, hz0, hz1, rfl⟩, rfl⟩
  by_cases q4 : 1048576 < z + n1 + n2
  · go_wp2
    go_ret
    exact ⟨rfl, Below.refl _ _⟩
  have g4 : decide ((1048576 : Int) < z + n1 + n2) = false := decide_eq_false (by omega)
  go_wp2_with fail
  refine (wordsFit_u ai b off len cap ss _ (by omega) (unhide HW) (unhide HSZ)).mono ?_
  rintro e w1 ⟨⟨r, hfit, rfl⟩, rfl⟩
  cases r
  · go_wp2
    go_ret
    exact ⟨rfl, Below.refl _ _⟩
  have HF := hide (hfit rfl)
  clear hfit
  go_wp2_with fail
  refine (cloneStrings_u ai b off len cap ss _ (by omega) (unhide HW) (unhide HN)).mono ?_
  rintro e w1 ⟨⟨ai', cap', rfl, hW1⟩, hb1⟩
  have HW1 := hide hW1
  have H11 := hide ((unhide H1).stays hb1)
  have H21 := hide ((unhide H2).stays hb1)
  have HB1 := hide hb1
  clear hW1 hb1
  go_wp2_with fail
  refine (cloneBytes_u a1 b1 o1 n1 c1 t1 _ (by omega) (unhide H11) (unhide HN1)).mono ?_
  rintro e w2 ⟨⟨a1', c1', rfl, hT1⟩, hb2⟩
  have HW2 := hide ((unhide HW1).stays hb2)
  have H22 := hide ((unhide H21).stays hb2)
  have HB2 := hide ((unhide HB1).trans (hb2.mono (unhide HB1).size))
  have HT1 := hide hT1
  clear hT1 hb2
  go_wp2_with fail
  refine (cloneBytes_u a2 b2 o2 n2 c2 t2 _ (by omega) (unhide H22) (unhide HN2)).mono ?_
  rintro e w3 ⟨⟨a2', c2', rfl, hT2⟩, hb3⟩
  have HW3 := hide ((unhide HW2).stays hb3)
  have HT13 := hide ((unhide HT1).stays hb3)
  have HT23 := hide hT2
  have HB3 := hide ((unhide HB2).trans (hb3.mono (unhide HB2).size))
  clear hT2 hb3 HB1 HB2 HW1 HW2 H11 H21 H22 HT1
  obtain ⟨i0, hi, hz0', hz1', hz2⟩ := info_parts Try.info5
  go_wp2_with (first | (at_make; refine wpList_make_full _ rfl _ _ 32 rfl w3.heap.size 5 i0 (.int .u8 0) 1 Try.underlying32 hi hz0' hz1' _ _ _ _ (n1 + n2) rfl rfl (by omega) (by omega) ?b1 ?b2 ?b3 ?_) | go_in)
  case b1 => rw [hz2]; omega
  case b2 => unfold maxLen; omega
  case b3 => simp
  intro w4 hown hgrow
  have hrow0 := Row.make hown
  have hbel0 : Below w3.heap.size w3 w4 := (Below.refl _ _).grown hgrow (Nat.le_refl _) (by simp)
  clear hown hgrow
  have HR0 := hide hrow0
  have HBl0 := hide hbel0
  clear hrow0 hbel0
  go_wp2
  go_loopw [10] (fun q wr => ∃ k : Nat, k ≤ n1 ∧ q = .int .i64 k ∧ Below w3.heap.size w3 wr ∧ Row wr w3.heap.size 5 (n1 + n2) (fun i => .int .u8 (if i < k then t1 i else 0)))
    (fun q _ => n1 - (intOf q).toNat)
  case atStart => exact ⟨0, Nat.zero_le _, rfl, unhide HBl0, (unhide HR0).cong (by simp)⟩
  case round =>
    obtain ⟨k, hk, rfl, hbel, hrow⟩ := hrel
    clear HR0 HBl0
    by_cases hlt : k < n1
    · have hck := ((unhide HT13).stays hbel).cells k hlt
      have ha1 := (unhide HT13).at0 (by omega)
      have df := hrow.free k
      have dk := hrow.cell (j := k) (by omega)
      simp at dk
      have HB := hide hbel
      have HR := hide hrow
      clear hbel hrow
      subst ha1
      simp only [Nat.zero_add] at hck
      go_wp2
      go_roundw
      case rel =>
        refine ⟨k + 1, by omega, by go_num, row_put (unhide HB) (unhide HR) fun i hi => ?_⟩
        by_cases e : i = k
        · subst e; simp
        · by_cases e2 : i < k
          · simp [e, e2]; omega
          · simp [e, e2]; omega
      case measure => simp [intOf]; omega
    · obtain rfl : k = n1 := by omega
      have HB := hide hbel
      have HR := hide hrow
      clear hbel hrow
      go_wp2
      go_loopw [11] (fun q wx => ∃ j : Nat, j ≤ n2 ∧ q = .int .i64 j ∧ Below w3.heap.size w3 wx ∧ Row wx w3.heap.size 5 (k + n2) (fun i => .int .u8 (if i < k + j then joinT k t1 t2 i else 0)))
        (fun q _ => n2 - (intOf q).toNat)
      case atStart =>
        refine ⟨0, Nat.zero_le _, rfl, unhide HB, (unhide HR).cong fun i hi => ?_⟩
        by_cases e : i < k
        · simp [e, joinT]
        · simp [e]
      case round =>
        obtain ⟨j, hj, rfl, hbel, hrow⟩ := hrel
        clear HB HR
        by_cases hjl : j < n2
        · have hck := ((unhide HT23).stays hbel).cells j hjl
          have ha2 := (unhide HT23).at0 (by omega)
          have df := hrow.free (k + j)
          have dk := hrow.cell (j := k + j) (by omega)
          simp at dk
          have HB := hide hbel
          have HR := hide hrow
          clear hbel hrow
          subst ha2
          simp only [Nat.zero_add] at hck
          go_wp2
          go_roundw
          case rel =>
            refine ⟨j + 1, by omega, by go_num, row_put (unhide HB) (unhide HR) fun i hi => ?_⟩
            by_cases e : i = k + j
            · subst e; simp [joinT]; omega
            · by_cases e2 : i < k + j
              · simp [e, e2]; omega
              · simp [e, e2]; omega
          case measure => simp [intOf]; omega
        · obtain rfl : j = n2 := by omega
          have hrj : Row wr w3.heap.size 5 (k + j) (fun i => .int .u8 (joinT k t1 t2 i)) := hrow.cong fun i hi => by rw [if_pos hi]
          have HJ := hide (TextAt.of_row (by omega) hrj (fun i => by
            unfold joinT
            split
            · exact (unhide HT13).bytes i
            · exact (unhide HT23).bytes _))
          have HT1 := hide ((unhide HT13).stays hbel)
          have HW4 := hide ((unhide HW3).stays hbel)
          have HB4 := hide ((unhide HB3).trans (hbel.mono (unhide HB3).size))
          clear hbel hrow hrj
          go_wp2_with fail
          refine (new_u (by omega) (unhide HW4) (unhide HF)).mono ?_
          rintro e w5 ⟨rfl, hb5, s, gw, cw, ao, tb, cp, lo, hset, hlies⟩
          have HSet := hide hset
          have HL5 := hide hlies
          have HJ5 := hide ((unhide HJ).stays hb5)
          have HT5 := hide ((unhide HT1).stays hb5)
          have HB5 := hide ((unhide HB4).trans (hb5.mono (unhide HB4).size))
          clear hset hlies hb5
          go_wp2_with fail
          refine (find_u at0 (unhide HL5) (unhide HSet).good (by omega) (unhide HT5) hat).mono ?_
          rintro e w6 ⟨rfl, hb6⟩
          have HL6 := hide ((unhide HL5).stays hb6)
          have HJ6 := hide ((unhide HJ5).stays hb6)
          have HB6 := hide ((unhide HB5).trans (hb6.mono (unhide HB5).size))
          clear hb6
          go_wp2_with fail
          refine (find_u at0 (unhide HL6) (unhide HSet).good (by omega) (unhide HJ6) hat).mono ?_
          rintro e w7 ⟨rfl, hb7⟩
          have HL7 := hide ((unhide HL6).stays hb7)
          have HJ7 := hide ((unhide HJ6).stays hb7)
          have HB7 := hide ((unhide HB6).trans (hb7.mono (unhide HB6).size))
          clear hb7
          have hres := resumesR (unhide HSet).good (t := t1) (t' := joinT k t1 t2) (show k ≤ k + j by omega) (fun i hi => by simp [joinT, hi]) at0
          have hle : (findR s k t1 at0).2 ≤ 9223372036854775807 := findF_le (unhide HSet).good k t1 k _ _ (by omega) (by omega)
          have HRes := hide hres
          clear hres
          generalize hR1 : findR s k t1 at0 = R1 at *
          generalize hR2 : findR s (k + j) (joinT k t1 t2) at0 = R2 at *
          clear hR1
          have HR2 := hide hR2
          clear hR2
          obtain ⟨f1, e1⟩ := R1
          obtain ⟨f2, e2⟩ := R2
          cases f1
          · obtain ⟨hge, hR3⟩ := (unhide HRes).2 rfl
            have HR3 := hide hR3
            clear hR3
            have hge' : (k : Int) ≤ e1 := hge
            clear hge
            go_wp2_with fail
            refine (find_u e1 (unhide HL7) (unhide HSet).good (by omega) (unhide HJ7) hle).mono ?_
            rintro e w8 ⟨rfl, hb8⟩
            have HB8 := hide ((unhide HB7).trans (hb8.mono (unhide HB7).size))
            clear hb8
            have e3 : findR s (k + j) (joinT k t1 t2) e1 = (f2, e2) := (unhide HR3)
            rw [e3]
            clear e3 HR3 HRes HR2
            have q5 : (f2 == f2) = true := by simp
            have q6 : (e2 == e2) = true := by simp
            go_wp2
            go_ret
            exact ⟨by simp, unhide HB8⟩
          · have h12 : (f2, e2) = (true, e1) := (unhide HRes).1 rfl
            simp only [Prod.mk.injEq] at h12
            obtain ⟨rfl, rfl⟩ := h12
            have q6 : (e2 == e2) = true := by simp
            go_wp2
            go_ret
            exact ⟨by simp, unhide HB7⟩
end Go.Proofs.Qxb6601726a
