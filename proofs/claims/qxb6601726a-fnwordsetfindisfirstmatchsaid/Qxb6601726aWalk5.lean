import Derived.Test.Qxb6601726aFirst
namespace Go.Proofs.Qxb6601726a
open Go.ChangeShapes Go.WideShapes Go.ChangeAt Go.RowKit
set_option linter.unusedVariables false


theorem shortest_u (ai : Option Addr) (b off len cap : Nat) (ss : Nat → ByteArray) (w : World) (hlen : len ≤ 256) (h : WordsAt w ai b off len ss) (hsz : ∀ i, i < len → (ss i).size ≤ 64) :
    Calls Try.prog 21 #[.slice ai len cap] w fun e w' => e = .returned (.int .i64 (shK ss len : Nat)) ∧ w = w' := by
  have HH := hide h
  have HSZ := hide hsz
  clear h hsz
  go_enter Try.func21, Try.ntmps21
  go_wp2
  go_loop [3, 4] (fun v i => ∃ (k x : Nat), k ≤ len ∧ i = .int .i64 k ∧ v = .int .i64 x ∧ x ≤ 64 ∧ Hid (x = shK ss k)) (fun _ i => len - (intOf i).toNat)
  case atStart => exact ⟨0, 64, Nat.zero_le _, rfl, rfl, Nat.le_refl _, rfl⟩
  case round =>
    obtain ⟨k, x, hk, rfl, rfl, hx, HX⟩ := hrel
    by_cases hlt : k < len
    · have hck := (unhide HH).cells k hlt
      have hai := (unhide HH).at0 (by omega)
      have hs64 := unhide HSZ k hlt
      have HX' : Hid (min x (ss k).size = shK ss (k + 1)) := by
        show min x (ss k).size = min (shK ss k) (ss k).size
        rw [← unhide HX]
      generalize ss k = s at hck hs64 HX'
      clear HH HX
      subst hai
      by_cases hm : s.size < x
      · go_wp2
        go_round
        case rel => exact ⟨k + 1, s.size, by omega, by go_num, rfl, by omega, by have := unhide HX'; show s.size = _; omega⟩
        case measure => simp [intOf]; omega
      · go_wp2
        go_round
        case rel => exact ⟨k + 1, x, by omega, by go_num, rfl, by omega, by have := unhide HX'; show x = _; omega⟩
        case measure => simp [intOf]; omega
    · have e : k = len := by omega
      clear HH
      go_wp2
      go_ret
      subst e
      exact ⟨congrArg (fun (q : Nat) => Ending.returned (.int .i64 q)) (unhide HX), rfl⟩

set_option maxRecDepth 100000 in
set_option maxHeartbeats 4000000 in
theorem walk5 (ai : Option Addr) (b off len cap : Nat) (ss : Nat → ByteArray) (a1 : Option Addr) (b1 o1 n1 c1 : Nat) (t1 : Nat → Int) (at0 : Int) (w : World)
    (hW : WordsAt w ai b off len ss) (hlen : len ≤ 9223372036854775807) (hnil : ai = none → len = 0 ∧ cap = 0) (hsz : ∀ i, i < len → (ss i).size ≤ 9223372036854775807)
    (h1 : TextAt w a1 b1 o1 n1 c1 t1) (hnil1 : a1 = none → n1 = 0 ∧ c1 = 0) (hat : at0 ≤ 9223372036854775807) :
    Calls Try.prog 5 #[.slice ai len cap, .slice a1 n1 c1, .int .i64 at0] w fun e w' => e = .returned (.bool true) ∧ Below w.heap.size w w' := by
  have hn1 : n1 ≤ 9223372036854775807 := by have := h1.cap1; have := h1.cap2; omega
  have HW := hide hW
  have H1 := hide h1
  have HSZ := hide hsz
  have HN := hide hnil
  have HN1 := hide hnil1
  clear hW h1 hsz hnil hnil1
  go_enter Try.func5, Try.ntmps5
  go_wp2_with fail
  refine (bytes13_u ai b off len cap ss a1 n1 c1 at0 _ hlen hn1 (unhide HW) (unhide HSZ)).mono ?_
  rintro e w1 ⟨⟨r, rfl⟩, rfl⟩
  cases r
  · go_wp2
    go_ret
    exact ⟨rfl, Below.refl _ _⟩
  by_cases q1 : 256 < len
  · go_wp2
    go_ret
    exact ⟨rfl, Below.refl _ _⟩
  by_cases q2 : 65536 < n1
  · go_wp2
    go_ret
    exact ⟨rfl, Below.refl _ _⟩
  have g1 : decide ((256 : Int) < (len : Int)) = false := decide_eq_false (by omega)
  have g2 : decide ((65536 : Int) < (n1 : Int)) = false := decide_eq_false (by omega)
  go_wp2_with fail
  refine (wordBytes_u ai b off len cap ss _ (by omega) (unhide HW) (unhide HSZ)).mono ?_
  rintro e w1 ⟨⟨z, hz0, hz1, rfl⟩, rfl⟩
  by_cases q4 : 1048576 < z + n1
  · go_wp2
    go_ret
    exact ⟨rfl, Below.refl _ _⟩
  have g4 : decide ((1048576 : Int) < z + n1) = false := decide_eq_false (by omega)
  go_wp2_with fail
  refine (wordsFit_u ai b off len cap ss _ (by omega) (unhide HW) (unhide HSZ)).mono ?_
  rintro e w1 ⟨⟨r, hfit, rfl⟩, rfl⟩
  cases r
  · go_wp2
    go_ret
    exact ⟨rfl, Below.refl _ _⟩
  have HF := hide (hfit rfl)
  clear hfit
  go_wp2_with fail
  refine (cloneStrings_u ai b off len cap ss _ (by omega) (unhide HW) (unhide HN)).mono ?_
  rintro e w1 ⟨⟨ai', cap', rfl, hW1⟩, hb1⟩
  have HW1 := hide hW1
  have H11 := hide ((unhide H1).stays hb1)
  have HB1 := hide hb1
  clear hW1 hb1
  go_wp2_with fail
  refine (cloneBytes_u a1 b1 o1 n1 c1 t1 _ (by omega) (unhide H11) (unhide HN1)).mono ?_
  rintro e w3 ⟨⟨a1', c1', rfl, hT1⟩, hb2⟩
  have HW3 := hide ((unhide HW1).stays hb2)
  have HB3 := hide ((unhide HB1).trans (hb2.mono (unhide HB1).size))
  have HT13 := hide hT1
  clear hT1 hb2 HB1 HW1 H11
  go_wp2_with fail
  refine (new_u (by omega) (unhide HW3) (unhide HF)).mono ?_
  rintro e w5 ⟨rfl, hb5, s, gw, cw, ao, tb, cp, lo, hset, hlies⟩
  have HSet := hide hset
  have HL5 := hide hlies
  have HT5 := hide ((unhide HT13).stays hb5)
  have HW5 := hide ((unhide HW3).stays hb5)
  have HB5 := hide ((unhide HB3).trans (hb5.mono (unhide HB3).size))
  clear hset hlies hb5
  go_wp2_with fail
  refine (find_u at0 (unhide HL5) (unhide HSet).good (by omega) (unhide HT5) hat).mono ?_
  rintro e w6 ⟨rfl, hb6⟩
  have hb6' := hb6
  have HL6 := hide ((unhide HL5).stays hb6)
  have HT6 := hide ((unhide HT5).stays hb6)
  have HB6 := hide ((unhide HB5).trans (hb6.mono (unhide HB5).size))
  clear hb6
  have HW6 := hide (((unhide HW5).stays hb6'))
  go_wp2_with fail
  refine (firstEnd_u ai' _ 0 len cap' ss a1' _ 0 n1 c1' t1 at0 _ (by omega) (by omega) (unhide HW6) (unhide HT6) (fun i hi => (unhide HF i hi).2) hat).mono ?_
  rintro e w7 ⟨hp, hb7⟩
  have HW7 := hide ((unhide HW6).stays hb7)
  have HB7 := hide ((unhide HB6).trans (hb7.mono (unhide HB6).size))
  obtain ⟨i1, i2⟩ := firstMatchR (unhide HSet) (fun i hi => (unhide HF i hi).1) (unhide HT6).bytes n1 at0
  clear hb7 hb6'
  rcases hp with ⟨rfl, hno⟩ | ⟨q, rfl, hq1, hq2, hq3, hq4⟩
  · obtain ⟨j1, j2, j3⟩ := i2 hno
    clear i1 i2 hno
    generalize findR s n1 t1 at0 = R at j1 j2 j3 ⊢
    obtain ⟨f, z⟩ := R
    dsimp only at j1 j2 j3
    subst j1
    have hn2 : (n1 : Int) ≤ 65536 := by omega
    rcases Int.lt_or_le at0 1 with hl | hl
    · have hm : max at0 1 = 1 := by omega
      rw [hm] at j2 j3
      clear hm
      by_cases hge : (1 : Int) < n1
      · obtain ⟨j4, j5⟩ := j3 hge
        clear j2 j3
        go_wp2_with fail
        refine (shortest_u ai' _ 0 len cap' ss _ (by omega) (unhide HW7) (fun i hi => (unhide HF i hi).2)).mono ?_
        rintro e w8 ⟨rfl, rfl⟩
        have hk := shK_le ss len
        generalize shK ss len = x at j5 hk ⊢
        go_wp2
        go_ret
        exact ⟨rfl, unhide HB7⟩
      · have j4 := j2 hge
        subst j4
        clear j2 j3
        go_wp2
        go_ret
        exact ⟨rfl, unhide HB7⟩
    · have hm : max at0 1 = at0 := by omega
      rw [hm] at j2 j3
      clear hm
      by_cases hge : at0 < n1
      · obtain ⟨j4, j5⟩ := j3 hge
        clear j2 j3
        go_wp2_with fail
        refine (shortest_u ai' _ 0 len cap' ss _ (by omega) (unhide HW7) (fun i hi => (unhide HF i hi).2)).mono ?_
        rintro e w8 ⟨rfl, rfl⟩
        have hk := shK_le ss len
        generalize shK ss len = x at j5 hk ⊢
        go_wp2
        go_ret
        exact ⟨rfl, unhide HB7⟩
      · have j4 := j2 hge
        subst j4
        clear j2 j3
        have q6 : (z == z) = true := by simp
        go_wp2
        go_ret
        exact ⟨rfl, unhide HB7⟩
  · rw [i1 q hq1 hq2 hq3 hq4]
    clear i1 i2 hq3 hq4
    have q6 : ((q : Int) == (q : Int)) = true := by simp
    go_wp2
    go_ret
    exact ⟨rfl, unhide HB7⟩
end Go.Proofs.Qxb6601726a
