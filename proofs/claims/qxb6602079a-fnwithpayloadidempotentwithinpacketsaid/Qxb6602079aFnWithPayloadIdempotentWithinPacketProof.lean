import Derived.Test.Qxb6602079aPayX
import Derived.Test.Qxb6602079aPayY
namespace Go.Proofs.Qxb6602079a.fnWithPayloadIdempotentWithinPacket
open Go.ChangeShapes Go.WideShapes Go.ChangeAt Go.RowKit
open Go.ChangeMaps (open_string shut_string)
set_option linter.unusedVariables false

set_option maxRecDepth 100000 in
set_option maxHeartbeats 2000000 in
theorem walk (a0 : Int) (a1 : Int) (a2 : Int) (a3 : Int) (a4 : Int) (a5 : Int) (a6 : Int) (a7 : Option Addr) (len7 cap7 : Nat) (z7 : List Int) (a8 : Int) (a9 : Int) (w : World) (w0 : (Lit.int .u32 a0).wf = true) (w1 : (Lit.int .i64 a1).wf = true) (w2 : (Lit.int .i64 a2).wf = true) (w3 : (Lit.int .i64 a3).wf = true) (w4 : (Lit.int .i64 a4).wf = true) (w5 : (Lit.int .i64 a5).wf = true) (w6 : (Lit.int .i64 a6).wf = true) (w7 : IsRow .u8 w a7 len7 cap7 z7) (w8 : (Lit.int .i64 a8).wf = true) (w9 : (Lit.int .u8 a9).wf = true) :
    Calls Try.prog 5 #[.int .u32 a0, .int .i64 a1, .int .i64 a2, .int .i64 a3, .int .i64 a4, .int .i64 a5, .int .i64 a6, .slice a7 len7 cap7, .int .i64 a8, .int .u8 a9] w fun e w' => e = .returned (.bool true) ∧ Below w.heap.size w w' := by
  obtain ⟨b, off, t, ht, hnil⟩ := text_of_row w7
  have hb : 0 ≤ a9 ∧ a9 ≤ 255 := bounds_u8 w9
  have b1 := bounds_i64 w1
  have b2 := bounds_i64 w2
  have b8 := bounds_i64 w8
  obtain ⟨i0, i1⟩ : -9223372036854775808 ≤ a1 ∧ a1 ≤ 9223372036854775807 := b1
  obtain ⟨l0, l1⟩ : -9223372036854775808 ≤ a2 ∧ a2 ≤ 9223372036854775807 := b2
  obtain ⟨p0, p1⟩ : -9223372036854775808 ≤ a8 ∧ a8 ≤ 9223372036854775807 := b8
  have hm : len7 ≤ 9223372036854775807 := by have := ht.cap1; have := ht.cap2; omega
  have HT := hide ht
  have HNil := hide hnil
  clear ht hnil w0 w1 w2 w3 w4 w5 w6 w7 w8 w9
  by_cases h : 1048576 < len7
  · go_enter Try.func5, Try.ntmps5
    go_wp2_with fail
    refine (bytes_no _ _ _ _ _ _ _ _ _ _ _ _ _ h hm).mono ?_
    rintro e w' ⟨rfl, rfl⟩
    go_wp2
    go_ret
    exact ⟨rfl, Below.refl _ _⟩
  have hn : len7 ≤ 1048576 := by omega
  have g0 : decide ((1048576 : Int) < (len7 : Int)) = false := decide_eq_false (by omega)
  by_cases hp : a8 < 0 ∨ 9223372036854775747 < a8
  · rcases hp with hp | hp
    all_goals
      go_enter Try.func5, Try.ntmps5
      go_wp2_with fail
      refine (bytes_yes _ _ _ _ _ _ _ _ _ _ _ _ _ hn).mono ?_
      rintro e w' ⟨rfl, rfl⟩
      go_wp2
      go_ret
      exact ⟨rfl, Below.refl _ _⟩
  have q0 : 0 ≤ a8 := by omega
  have q1 : a8 ≤ 9223372036854775747 := by omega
  clear hp
  have g1 : decide (a8 < 0) = false := decide_eq_false (by omega)
  have g2 : decide (9223372036854775747 < a8) = false := decide_eq_false (by omega)
  rcases Int.lt_trichotomy a2 0 with hil | hil | hil
  · by_cases hf : a1 < -9223372036854775808 - a2
    · go_enter Try.func5, Try.ntmps5
      go_wp2_with fail
      refine (bytes_yes _ _ _ _ _ _ _ _ _ _ _ _ _ hn).mono ?_
      rintro e w' ⟨rfl, rfl⟩
      go_wp2
      go_ret
      exact ⟨rfl, Below.refl _ _⟩
    · exact inside_neg _ _ _ _ _ _ _ _ _ _ b off _ _ t w hb.1 hb.2 hn (unhide HT) (unhide HNil) q0 q1 i0 i1 l0 l1 (by omega) (by omega) hil
  · exact inside_zero _ _ _ _ _ _ _ _ _ _ b off _ _ t w hb.1 hb.2 hn (unhide HT) (unhide HNil) q0 q1 i0 i1 l0 l1 (by omega) (by omega) hil
  · by_cases hf : 9223372036854775807 - a2 < a1
    · go_enter Try.func5, Try.ntmps5
      go_wp2_with fail
      refine (bytes_yes _ _ _ _ _ _ _ _ _ _ _ _ _ hn).mono ?_
      rintro e w' ⟨rfl, rfl⟩
      go_wp2
      go_ret
      exact ⟨rfl, Below.refl _ _⟩
    · exact inside_pos _ _ _ _ _ _ _ _ _ _ b off _ _ t w hb.1 hb.2 hn (unhide HT) (unhide HNil) q0 q1 i0 i1 l0 l1 (by omega) (by omega) hil

set_option maxRecDepth 100000 in
theorem lifted (os : Os) (started : os.Started) (H : Type) (enc : TypeId × Value → H) :
    ReturnsInHanded {} Try.checked os 5 .any (Rows.fnWithPayloadIdempotentWithinPacketSpec.pre6 enc Try.prog Try.f5 Rows.fnWithPayloadIdempotentWithinPacketRow.domain false) (Rows.fnWithPayloadIdempotentWithinPacketSpec.post enc Try.prog Try.f5 false true false false) := by
  refine returnsInHanded_of_change (C := Try.checked) own started (by kernel_rfl) Try.func5
    (ChangeSpec.witness6 (enc := enc) (C := Try.checked) false ⟨#[], #[.int .u32 0, .int .i64 0, .int .i64 0, .int .i64 0, .int .i64 0, .int .i64 0, .int .i64 0, .slice none 0 0, .int .i64 0, .int .u8 0], []⟩ 8 (by kernel_rfl) (by kernel_rfl) (by kernel_rfl) (by kernel_rfl)) ?_
  intro W base args ds gs before hval0 hW hcnd _
  have hval : ∀ (j : Nat) t v, Try.f5.params[j]? = some t → args[j]? = some v → Value.okWide Try.prog W .any base t v := hval0
  have hW' := hW
  obtain ⟨p, q, hA0, hV, rfl, hfz, hnd⟩ := hW
  have hA : DataW.TrodAll enc Try.prog W 0 (fun _ => true) true Try.f5.params.toList args.toList ds p := hA0
  rw [Try.params5] at hA hval
  obtain ⟨v0, vs0, d0, ds0, p0, q0, hargs, rfl, rfl, h0, r0⟩ := trodAll_cons hA
  obtain ⟨v1, vs1, d1, ds1, p1, q1, rfl, rfl, rfl, h1, r1⟩ := trodAll_cons r0
  obtain ⟨v2, vs2, d2, ds2, p2, q2, rfl, rfl, rfl, h2, r2⟩ := trodAll_cons r1
  obtain ⟨v3, vs3, d3, ds3, p3, q3, rfl, rfl, rfl, h3, r3⟩ := trodAll_cons r2
  obtain ⟨v4, vs4, d4, ds4, p4, q4, rfl, rfl, rfl, h4, r4⟩ := trodAll_cons r3
  obtain ⟨v5, vs5, d5, ds5, p5, q5, rfl, rfl, rfl, h5, r5⟩ := trodAll_cons r4
  obtain ⟨v6, vs6, d6, ds6, p6, q6, rfl, rfl, rfl, h6, r6⟩ := trodAll_cons r5
  obtain ⟨v7, vs7, d7, ds7, p7, q7, rfl, rfl, rfl, h7, r7⟩ := trodAll_cons r6
  obtain ⟨v8, vs8, d8, ds8, p8, q8, rfl, rfl, rfl, h8, r8⟩ := trodAll_cons r7
  obtain ⟨v9, vs9, d9, ds9, p9, q9, rfl, rfl, rfl, h9, r9⟩ := trodAll_cons r8
  obtain ⟨rfl, rfl, rfl⟩ := trodAll_nil r9
  obtain rfl : args = #[v0, v1, v2, v3, v4, v5, v6, v7, v8, v9] := by cases args; simp_all
  obtain ⟨rfl, rfl⟩ := trodVars_none hV
  obtain ⟨a0, rfl, rfl, rfl, w0⟩ := open_int Try.underlying30 (hval 0 30 v0 rfl rfl) h0
  obtain ⟨a1, rfl, rfl, rfl, w1⟩ := open_int Try.underlying3 (hval 1 3 v1 rfl rfl) h1
  obtain ⟨a2, rfl, rfl, rfl, w2⟩ := open_int Try.underlying3 (hval 2 3 v2 rfl rfl) h2
  obtain ⟨a3, rfl, rfl, rfl, w3⟩ := open_int Try.underlying3 (hval 3 3 v3 rfl rfl) h3
  obtain ⟨a4, rfl, rfl, rfl, w4⟩ := open_int Try.underlying3 (hval 4 3 v4 rfl rfl) h4
  obtain ⟨a5, rfl, rfl, rfl, w5⟩ := open_int Try.underlying3 (hval 5 3 v5 rfl rfl) h5
  obtain ⟨a6, rfl, rfl, rfl, w6⟩ := open_int Try.underlying3 (hval 6 3 v6 rfl rfl) h6
  obtain ⟨a7, len7, cap7, rfl⟩ := okWide_slice Try.underlying22 (hval 7 22 v7 rfl rfl)
  have k7 := h7
  have lt7 : ∀ x ∈ p7, x.block < W.heap.size := by obtain ⟨m, hm⟩ := k7; exact DataW.trod_lt m _ _ _ hm
  obtain ⟨z7, w7⟩ : ∃ zs, IsRow .u8 W a7 len7 cap7 zs := by
    obtain ⟨fuel, hf⟩ := h7
    rcases open_ints Try.underlying22 Try.underlying5 (by kernel_rfl) hf with ⟨hcs, _⟩ | ⟨x, l, c, zs, hcs, _, hl, hm, hz, _, hcell, hwz⟩
    · simp [Value.cells] at hcs
      obtain ⟨rfl, rfl, rfl⟩ := hcs
      exact ⟨[], .inl ⟨rfl, rfl, rfl, rfl⟩⟩
    · simp [Value.cells] at hcs
      obtain ⟨rfl, rfl, rfl⟩ := hcs
      exact ⟨zs, .inr ⟨_, rfl, hl, hm, by simpa using hz, hcell, hwz⟩⟩
  obtain ⟨a8, rfl, rfl, rfl, w8⟩ := open_int Try.underlying3 (hval 8 3 v8 rfl rfl) h8
  obtain ⟨a9, rfl, rfl, rfl, w9⟩ := open_int Try.underlying5 (hval 9 5 v9 rfl rfl) h9
  clear hA0 hval0
  refine (walk a0 a1 a2 a3 a4 a5 a6 a7 len7 cap7 z7 a8 a9 W w0 w1 w2 w3 w4 w5 w6 w7 w8 w9).mono fun e W' ⟨he, bel⟩ => ?_
  subst he
  exact ⟨_, rfl, _, _, _, [], _, [], hW', trodAll_mk1 (shut_bool Try.underlying4 _), (trodAll_cons_mk (shut_int Try.underlying30 w0) (trodAll_cons_mk (shut_int Try.underlying3 w1) (trodAll_cons_mk (shut_int Try.underlying3 w2) (trodAll_cons_mk (shut_int Try.underlying3 w3) (trodAll_cons_mk (shut_int Try.underlying3 w4) (trodAll_cons_mk (shut_int Try.underlying3 w5) (trodAll_cons_mk (shut_int Try.underlying3 w6) (trodAll_cons_mk (Below.trod laidOut (by kernel_rfl) (of_decide_eq_true (by kernel_rfl)) k7 bel lt7) (trodAll_cons_mk (shut_int Try.underlying3 w8) (trodAll_cons_mk (shut_int Try.underlying5 w9) trodAll_mk0)))))))))), rfl, bel.frame _, fun h => by cases h⟩

theorem over : Rows.fnWithPayloadIdempotentWithinPacketRow.holds Try.pinned (OpenSpec.ofChange Rows.fnWithPayloadIdempotentWithinPacketSpec) :=
  OpenClaim.holds_of_wide 5 Try.f5 rfl rfl rfl rfl rfl rfl rfl ⟨rfl, rfl, rfl, rfl, rfl⟩ rfl rfl rfl rfl rfl (by kernel_rfl) Try.func5 (by kernel_rfl)
    (of_decide_eq_true (by kernel_rfl)) (by unfold Func.isWrapper; first | (rw [if_pos (by decide +kernel)]; kernel_rfl) | (rw [if_neg (by decide +kernel)]; exact ⟨rfl, rfl⟩))
    (fun os started H enc _ => lifted os started H enc)

/-- THE STATEMENT -/
theorem proved : Rows.FnWithPayloadIdempotentWithinPacketSaid := over
#print axioms proved
end Go.Proofs.Qxb6602079a.fnWithPayloadIdempotentWithinPacket
