import Derived.Test.Qxb6602079aLeaf
namespace Go.Proofs.Qxb6602079a.fnTransportHeaderLenBoundedLocal
open Go.ChangeShapes Go.WideShapes Go.ChangeAt Go.RowKit
open Go.ChangeMaps (open_string shut_string)
set_option linter.unusedVariables false

theorem own : ownKnob Try.prog.godebug = none := by kernel_rfl
theorem laidOut : laidOutB Try.prog = true := by kernel_rfl

theorem bytes_yes (p : Int) (a : Option Addr) (len cap : Nat) (w : World) (h : len ≤ 1048576) :
    Calls Try.prog 6 #[.int .u8 p, .slice a len cap] w fun e w' => e = .returned (.bool true) ∧ w = w' := by
  go_enter Try.func6, Try.ntmps6
  go_wp2
  go_ret
  exact ⟨rfl, rfl⟩
theorem bytes_no (p : Int) (a : Option Addr) (len cap : Nat) (w : World) (h : 1048576 < len) (hm : len ≤ 9223372036854775807) :
    Calls Try.prog 6 #[.int .u8 p, .slice a len cap] w fun e w' => e = .returned (.bool false) ∧ w = w' := by
  go_enter Try.func6, Try.ntmps6
  go_wp2
  go_ret
  exact ⟨rfl, rfl⟩

theorem text_cut {w : World} {ai : Option Addr} {b off n cap : Nat} {t : Nat → Int} (h : TextAt w ai b off n cap t) {k : Nat} (hk : k ≤ n) : TextAt w ai b off k cap t :=
  ⟨by have := h.cap1; omega, h.cap2, fun h0 => h.at0 (by omega), fun i hi => h.cells i (by omega), h.bytes⟩

theorem thl_cut (proto : Int) (n : Nat) (t : Nat → Int) (h : 13 ≤ n) : thl proto 13 t = thl proto n t := by
  unfold thl
  simp [h]

theorem thl_cases (proto : Int) (n : Nat) (t : Nat → Int) (ht : 0 ≤ t 12 ∧ t 12 ≤ 255) : (proto = 17 ∧ thl proto n t = (8, true)) ∨ (proto ≠ 17 ∧ proto = 6 ∧ ∃ v, thl proto n t = (v, true) ∧ 20 ≤ v ∧ v ≤ 60 ∧ v % 4 = 0) ∨
    (proto ≠ 17 ∧ ∃ v, thl proto n t = (v, false) ∧ 0 ≤ v ∧ v < 20 ∧ v % 4 = 0) := by
  unfold thl
  by_cases h1 : proto = 17
  · exact .inl ⟨h1, by rw [if_pos h1]⟩
  · right
    rw [if_neg h1]
    by_cases h2 : proto = 6 ∧ 13 ≤ n
    · rw [if_pos h2]
      by_cases h3 : 20 ≤ t 12 / 16 * 4
      · exact .inl ⟨h1, h2.1, _, by rw [decide_eq_true h3], h3, by omega, by omega⟩
      · exact .inr ⟨h1, _, by rw [decide_eq_false h3], by omega, by omega, by omega⟩
    · rw [if_neg h2]
      exact .inr ⟨h1, 0, rfl, by omega, by omega, by omega⟩

set_option maxHeartbeats 1000000 in
theorem inside (proto : Int) (ai : Option Addr) (b off n cap : Nat) (t : Nat → Int) (w : World) (hp0 : 0 ≤ proto) (hp1 : proto ≤ 255) (hn : n ≤ 1048576) (h : TextAt w ai b off n cap t) (hnil : ai = none → n = 0 ∧ cap = 0) :
    Calls Try.prog 3 #[.int .u8 proto, .slice ai n cap] w fun e w' => e = .returned (.bool true) ∧ Below w.heap.size w w' := by
  have HH := hide h
  have HN := hide hnil
  clear h hnil
  go_enter Try.func3, Try.ntmps3
  go_wp2_with fail
  refine (bytes_yes _ _ _ _ _ hn).mono ?_
  rintro e w' ⟨rfl, rfl⟩
  have g0 : decide ((1048576 : Int) < (n : Int)) = false := decide_eq_false (by omega)
  go_wp2_with fail
  refine (copy_u ai b off n cap t _ hn (unhide HH) (unhide HN)).mono ?_
  rintro e w1 ⟨⟨a', c', rfl, hT⟩, hbel⟩
  have hc1 := hT.cap1
  have hc2 := hT.cap2
  have HT := hide hT
  have HB := hide hbel
  clear hT hbel
  go_wp2_with fail
  refine (thl_any proto a' _ 0 n c' t _ hp0 hp1 (by omega) (unhide HT)).mono ?_
  rintro e w2 ⟨rfl, rfl⟩
  have hx := (unhide HT).bytes 12
  by_cases h13 : 13 < n
  · have ha := (unhide HT).at0 (by omega)
    subst ha
    go_wp2_with fail
    refine (thl_any proto _ _ 0 13 c' t _ hp0 hp1 (by omega) (text_cut (unhide HT) (by omega))).mono ?_
    rintro e w2 ⟨rfl, rfl⟩
    rw [thl_cut proto n t (by omega)]
    rcases thl_cases proto n t hx with ⟨rfl, hR⟩ | ⟨hne, rfl, v, hR, hv1, hv2, hv3⟩ | ⟨hne, v, hR, hv1, hv2, hv3⟩
    · rw [hR]
      go_wp2_with fail
      refine (thl_any 17 none 0 0 0 0 t _ (by omega) (by omega) (by omega) ⟨Nat.le_refl _, by omega, fun h => by omega, fun i hi => by omega, (unhide HT).bytes⟩).mono ?_
      rintro e w3 ⟨rfl, rfl⟩
      have e3 : thl 17 0 t = (8, true) := rfl
      rw [e3]
      go_wp2
      go_ret
      exact ⟨rfl, unhide HB⟩
    · rw [hR]
      have q1 : (v != v) = false := by simp
      go_wp2
      go_ret
      exact ⟨rfl, unhide HB⟩
    · rw [hR]
      have q1 : (v != v) = false := by simp
      have q2 : (proto == 17) = false := by simp [hne]
      go_wp2
      go_ret
      exact ⟨rfl, unhide HB⟩
  · by_cases h00 : n = 0
    · subst h00
      go_wp2_with fail
      refine (thl_any proto _ _ 0 0 c' t _ hp0 hp1 (by omega) (unhide HT)).mono ?_
      rintro e w2 ⟨rfl, rfl⟩
      rcases thl_cases proto 0 t hx with ⟨rfl, hR⟩ | ⟨hne, rfl, v, hR, hv1, hv2, hv3⟩ | ⟨hne, v, hR, hv1, hv2, hv3⟩
      · rw [hR]
        go_wp2_with fail
        refine (thl_any 17 none 0 0 0 0 t _ (by omega) (by omega) (by omega) ⟨Nat.le_refl _, by omega, fun h => by omega, fun i hi => by omega, (unhide HT).bytes⟩).mono ?_
        rintro e w3 ⟨rfl, rfl⟩
        have e3 : thl 17 0 t = (8, true) := rfl
        rw [e3]
        go_wp2
        go_ret
        exact ⟨rfl, unhide HB⟩
      · rw [hR]
        have q1 : (v != v) = false := by simp
        go_wp2
        go_ret
        exact ⟨rfl, unhide HB⟩
      · rw [hR]
        have q1 : (v != v) = false := by simp
        have q2 : (proto == 17) = false := by simp [hne]
        go_wp2
        go_ret
        exact ⟨rfl, unhide HB⟩
    · have ha := (unhide HT).at0 (by omega)
      subst ha
      go_wp2_with fail
      refine (thl_any proto _ _ 0 n c' t _ hp0 hp1 (by omega) (unhide HT)).mono ?_
      rintro e w2 ⟨rfl, rfl⟩
      rcases thl_cases proto n t hx with ⟨rfl, hR⟩ | ⟨hne, rfl, v, hR, hv1, hv2, hv3⟩ | ⟨hne, v, hR, hv1, hv2, hv3⟩
      · rw [hR]
        go_wp2_with fail
        refine (thl_any 17 none 0 0 0 0 t _ (by omega) (by omega) (by omega) ⟨Nat.le_refl _, by omega, fun h => by omega, fun i hi => by omega, (unhide HT).bytes⟩).mono ?_
        rintro e w3 ⟨rfl, rfl⟩
        have e3 : thl 17 0 t = (8, true) := rfl
        rw [e3]
        go_wp2
        go_ret
        exact ⟨rfl, unhide HB⟩
      · rw [hR]
        have q1 : (v != v) = false := by simp
        go_wp2
        go_ret
        exact ⟨rfl, unhide HB⟩
      · rw [hR]
        have q1 : (v != v) = false := by simp
        have q2 : (proto == 17) = false := by simp [hne]
        go_wp2
        go_ret
        exact ⟨rfl, unhide HB⟩

theorem walk (a0 : Int) (a1 : Option Addr) (len1 cap1 : Nat) (z1 : List Int) (w : World) (w0 : (Lit.int .u8 a0).wf = true) (w1 : IsRow .u8 w a1 len1 cap1 z1) :
    Calls Try.prog 3 #[.int .u8 a0, .slice a1 len1 cap1] w fun e w' => e = .returned (.bool true) ∧ Below w.heap.size w w' := by
  obtain ⟨b, off, t, ht, hnil⟩ := text_of_row w1
  have hb : 0 ≤ a0 ∧ a0 ≤ 255 := bounds_u8 w0
  by_cases h : 1048576 < len1
  · have hm : len1 ≤ 9223372036854775807 := by have := ht.cap1; have := ht.cap2; omega
    clear ht hnil w1 w0
    go_enter Try.func3, Try.ntmps3
    go_wp2_with fail
    refine (bytes_no _ _ _ _ _ h hm).mono ?_
    rintro e w' ⟨rfl, rfl⟩
    go_wp2
    go_ret
    exact ⟨rfl, Below.refl _ _⟩
  · exact inside a0 a1 b off len1 cap1 t w hb.1 hb.2 (by omega) ht hnil

set_option maxRecDepth 100000 in
theorem lifted (os : Os) (started : os.Started) (H : Type) (enc : TypeId × Value → H) :
    ReturnsInHanded {} Try.checked os 3 .any (Rows.fnTransportHeaderLenBoundedLocalSpec.pre6 enc Try.prog Try.f3 Rows.fnTransportHeaderLenBoundedLocalRow.domain false) (Rows.fnTransportHeaderLenBoundedLocalSpec.post enc Try.prog Try.f3 false true false false) := by
  refine returnsInHanded_of_change (C := Try.checked) own started (by kernel_rfl) Try.func3
    (ChangeSpec.witness6 (enc := enc) (C := Try.checked) false ⟨#[], #[.int .u8 0, .slice none 0 0], []⟩ 8 (by kernel_rfl) (by kernel_rfl) (by kernel_rfl) (by kernel_rfl)) ?_
  intro W base args ds gs before hval0 hW hcnd _
  have hval : ∀ (j : Nat) t v, Try.f3.params[j]? = some t → args[j]? = some v → Value.okWide Try.prog W .any base t v := hval0
  have hW' := hW
  obtain ⟨p, q, hA0, hV, rfl, hfz, hnd⟩ := hW
  have hA : DataW.TrodAll enc Try.prog W 0 (fun _ => true) true Try.f3.params.toList args.toList ds p := hA0
  rw [Try.params3] at hA hval
  obtain ⟨v0, vs0, d0, ds0, p0, q0, hargs, rfl, rfl, h0, r0⟩ := trodAll_cons hA
  obtain ⟨v1, vs1, d1, ds1, p1, q1, rfl, rfl, rfl, h1, r1⟩ := trodAll_cons r0
  obtain ⟨rfl, rfl, rfl⟩ := trodAll_nil r1
  obtain rfl : args = #[v0, v1] := by cases args; simp_all
  obtain ⟨rfl, rfl⟩ := trodVars_none hV
  obtain ⟨a0, rfl, rfl, rfl, w0⟩ := open_int Try.underlying5 (hval 0 5 v0 rfl rfl) h0
  obtain ⟨a1, len1, cap1, rfl⟩ := okWide_slice Try.underlying22 (hval 1 22 v1 rfl rfl)
  have k1 := h1
  have lt1 : ∀ x ∈ p1, x.block < W.heap.size := by obtain ⟨m, hm⟩ := k1; exact DataW.trod_lt m _ _ _ hm
  obtain ⟨z1, w1⟩ : ∃ zs, IsRow .u8 W a1 len1 cap1 zs := by
    obtain ⟨fuel, hf⟩ := h1
    rcases open_ints Try.underlying22 Try.underlying5 (by kernel_rfl) hf with ⟨hcs, _⟩ | ⟨x, l, c, zs, hcs, _, hl, hm, hz, _, hcell, hwz⟩
    · simp [Value.cells] at hcs
      obtain ⟨rfl, rfl, rfl⟩ := hcs
      exact ⟨[], .inl ⟨rfl, rfl, rfl, rfl⟩⟩
    · simp [Value.cells] at hcs
      obtain ⟨rfl, rfl, rfl⟩ := hcs
      exact ⟨zs, .inr ⟨_, rfl, hl, hm, by simpa using hz, hcell, hwz⟩⟩
  clear hA0 hval0
  refine (walk a0 a1 len1 cap1 z1 W w0 w1).mono fun e W' ⟨he, bel⟩ => ?_
  subst he
  exact ⟨_, rfl, _, _, _, [], _, [], hW', trodAll_mk1 (shut_bool Try.underlying4 _), (trodAll_cons_mk (shut_int Try.underlying5 w0) (trodAll_cons_mk (Below.trod laidOut (by kernel_rfl) (of_decide_eq_true (by kernel_rfl)) k1 bel lt1) trodAll_mk0)), rfl, bel.frame _, fun h => by cases h⟩

theorem over : Rows.fnTransportHeaderLenBoundedLocalRow.holds Try.pinned (OpenSpec.ofChange Rows.fnTransportHeaderLenBoundedLocalSpec) :=
  OpenClaim.holds_of_wide 3 Try.f3 rfl rfl rfl rfl rfl rfl rfl ⟨rfl, rfl, rfl, rfl, rfl⟩ rfl rfl rfl rfl rfl (by kernel_rfl) Try.func3 (by kernel_rfl)
    (of_decide_eq_true (by kernel_rfl)) (by unfold Func.isWrapper; first | (rw [if_pos (by decide +kernel)]; kernel_rfl) | (rw [if_neg (by decide +kernel)]; exact ⟨rfl, rfl⟩))
    (fun os started H enc _ => lifted os started H enc)

/-- THE STATEMENT -/
theorem proved : Rows.FnTransportHeaderLenBoundedLocalSaid := over
#print axioms proved
end Go.Proofs.Qxb6602079a.fnTransportHeaderLenBoundedLocal
