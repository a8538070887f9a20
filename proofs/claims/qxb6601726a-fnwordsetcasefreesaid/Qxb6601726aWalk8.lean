import Derived.Test.Qxb6601726aCase
namespace Go.Proofs.Qxb6601726a
open Go.ChangeShapes Go.WideShapes Go.ChangeAt Go.RowKit
set_option linter.unusedVariables false

set_option maxRecDepth 100000 in
set_option maxHeartbeats 4000000 in
theorem walk8 (ai : Option Addr) (b off len cap : Nat) (ss : Nat → ByteArray) (a1 : Option Addr) (b1 o1 n1 c1 : Nat) (t1 : Nat → Int) (at0 : Int) (w : World)
    (hW : WordsAt w ai b off len ss) (hlen : len ≤ 9223372036854775807) (hnil : ai = none → len = 0 ∧ cap = 0) (hsz : ∀ i, i < len → (ss i).size ≤ 9223372036854775807)
    (h1 : TextAt w a1 b1 o1 n1 c1 t1) (hnil1 : a1 = none → n1 = 0 ∧ c1 = 0) (hat : at0 ≤ 9223372036854775807) :
    Calls Try.prog 8 #[.slice ai len cap, .slice a1 n1 c1, .int .i64 at0] w fun e w' => e = .returned (.bool true) ∧ Below w.heap.size w w' := by
  have hn1 : n1 ≤ 9223372036854775807 := by have := h1.cap1; have := h1.cap2; omega
  have HW := hide hW
  have H1 := hide h1
  have HSZ := hide hsz
  have HN := hide hnil
  have HN1 := hide hnil1
  clear hW h1 hsz hnil hnil1
  go_enter Try.func8, Try.ntmps8
  go_wp2_with fail
  refine (bytes24_u ai b off len cap ss a1 n1 c1 at0 _ hlen hn1 (unhide HW) (unhide HSZ)).mono ?_
  rintro e w1 ⟨⟨r, rfl⟩, rfl⟩
  cases r
  · go_wp2
    go_ret
    exact ⟨rfl, Below.refl _ _⟩
  by_cases q1 : 256 < len
  · go_wp2
    go_ret
    exact ⟨rfl, Below.refl _ _⟩
  by_cases q2 : 65536 < n1
  · go_wp2
    go_ret
    exact ⟨rfl, Below.refl _ _⟩
  have g1 : decide ((256 : Int) < (len : Int)) = false := decide_eq_false (by omega)
  have g2 : decide ((65536 : Int) < (n1 : Int)) = false := decide_eq_false (by omega)
  go_wp2_with fail
  refine (wordBytes_u ai b off len cap ss _ (by omega) (unhide HW) (unhide HSZ)).mono ?_
  rintro e w1 ⟨⟨z, hz0, hz1, rfl⟩, rfl⟩
  by_cases q4 : 1048576 < z + n1
  · go_wp2
    go_ret
    exact ⟨rfl, Below.refl _ _⟩
  have g4 : decide ((1048576 : Int) < z + n1) = false := decide_eq_false (by omega)
  go_wp2_with fail
  refine (wordsFit_u ai b off len cap ss _ (by omega) (unhide HW) (unhide HSZ)).mono ?_
  rintro e w1 ⟨⟨r, hfit, rfl⟩, rfl⟩
  cases r
  · go_wp2
    go_ret
    exact ⟨rfl, Below.refl _ _⟩
  have HF := hide (hfit rfl)
  clear hfit
  go_wp2_with fail
  refine (hasUpper_u ai b off len cap ss _ (by omega) (unhide HW) (fun i hi => (unhide HF i hi).2)).mono ?_
  rintro e w1 ⟨⟨r, hup, rfl⟩, rfl⟩
  cases r
  case true =>
    go_wp2
    go_ret
    exact ⟨rfl, Below.refl _ _⟩
  have HU := hide (hup rfl)
  clear hup
  go_wp2_with fail
  refine (cloneStrings_u ai b off len cap ss _ (by omega) (unhide HW) (unhide HN)).mono ?_
  rintro e w1 ⟨⟨ai', cap', rfl, hW1⟩, hb1⟩
  have HW1 := hide hW1
  have H11 := hide ((unhide H1).stays hb1)
  have HB1 := hide hb1
  clear hW1 hb1
  go_wp2_with fail
  refine (cloneBytes_u a1 b1 o1 n1 c1 t1 _ (by omega) (unhide H11) (unhide HN1)).mono ?_
  rintro e w3 ⟨⟨a1', c1', rfl, hT1⟩, hb2⟩
  have HW3 := hide ((unhide HW1).stays hb2)
  have HB3 := hide ((unhide HB1).trans (hb2.mono (unhide HB1).size))
  have HT13 := hide hT1
  clear hT1 hb2 HB1 HW1 H11
  go_wp2_with fail
  refine (new_u (by omega) (unhide HW3) (unhide HF)).mono ?_
  rintro e w5 ⟨rfl, hb5, s, gw, cw, ao, tb, cp, lo, hset, hlies⟩
  have HSet := hide hset
  have HL5 := hide hlies
  have HT5 := hide ((unhide HT13).stays hb5)
  have HB5 := hide ((unhide HB3).trans (hb5.mono (unhide HB3).size))
  clear hset hlies hb5
  go_wp2_with fail
  refine (find_u at0 (unhide HL5) (unhide HSet).good (by omega) (unhide HT5) hat).mono ?_
  rintro e w6 ⟨rfl, hb6⟩
  have HL6 := hide ((unhide HL5).stays hb6)
  have HT6 := hide ((unhide HT5).stays hb6)
  have HB6 := hide ((unhide HB5).trans (hb6.mono (unhide HB5).size))
  clear hb6
  go_wp2_with fail
  refine (swapCase_u a1' _ 0 n1 c1' t1 _ (by omega) (unhide HT6)).mono ?_
  rintro e w7 ⟨rfl, hb7, hT7⟩
  have HL7 := hide ((unhide HL6).stays hb7)
  have HT7 := hide hT7
  have HB7 := hide ((unhide HB6).trans (hb7.mono (unhide HB6).size))
  clear hb7 hT7
  go_wp2_with fail
  refine (find_u at0 (unhide HL7) (unhide HSet).good (by omega) (unhide HT7) hat).mono ?_
  rintro e w8 ⟨rfl, hb8⟩
  have HB8 := hide ((unhide HB7).trans (hb8.mono (unhide HB7).size))
  clear hb8
  have heq : findR s n1 (fun i => swapC (t1 i)) at0 = findR s n1 t1 at0 := findR_swap (unhide HT6).bytes (fun j hj k hk => by
    rw [(unhide HSet).tx]
    rw [(unhide HSet).ln] at hk
    exact (unhide HU) j (by rw [← (unhide HSet).hm]; exact hj) k hk) n1 at0
  rw [heq]
  clear heq
  generalize findR s n1 t1 at0 = R
  obtain ⟨f2, e2⟩ := R
  have q5 : (f2 == f2) = true := by simp
  have q6 : (e2 == e2) = true := by simp
  go_wp2
  go_ret
  exact ⟨by simp, unhide HB8⟩
end Go.Proofs.Qxb6601726a
