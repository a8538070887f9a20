import Derived.Test.Qxb6601726aDigits
namespace Go.Proofs.Qxb6601726a.fnDigitsOfKeepsOrder
open Go.ChangeShapes Go.WideShapes Go.ChangeAt Go.RowKit
open Go.ChangeMaps (open_string shut_string)
set_option linter.unusedVariables false

theorem own : ownKnob Try.prog.godebug = none := by kernel_rfl

theorem part_lt {a b : Int} (ha : 100 ≤ a) (hb : b ≤ 999) (h : a < b) : part a 3 < part b 3 := by
  have e1 : a / 10 / 10 = a / 100 := by omega
  have e2 : b / 10 / 10 = b / 100 := by omega
  obtain ⟨h, hh⟩ : ∃ h, h = a / 100 := ⟨_, rfl⟩
  obtain ⟨t, ht⟩ : ∃ t, t = a / 10 % 10 := ⟨_, rfl⟩
  obtain ⟨o, ho⟩ : ∃ o, o = a % 10 := ⟨_, rfl⟩
  obtain ⟨h', hh'⟩ : ∃ h, h = b / 100 := ⟨_, rfl⟩
  obtain ⟨t', ht'⟩ : ∃ t, t = b / 10 % 10 := ⟨_, rfl⟩
  obtain ⟨o', ho'⟩ : ∃ o, o = b % 10 := ⟨_, rfl⟩
  have ea : a = 100 * h + 10 * t + o := by omega
  have eb : b = 100 * h' + 10 * t' + o' := by omega
  have r1 : 0 ≤ t ∧ t ≤ 9 ∧ 0 ≤ o ∧ o ≤ 9 ∧ 0 ≤ t' ∧ t' ≤ 9 ∧ 0 ≤ o' ∧ o' ≤ 9 := by omega
  simp only [part]
  rw [← hh, ← ht, ← ho, ← hh', ← ht', ← ho']
  clear e1 e2 hh ht ho hh' ht' ho'
  omega

theorem zz_some (b off len cap : Nat) (zs : Nat → Int) (w : World) (hlen : len ≤ 1048576) (hb : b < w.heap.size)
    (hc : ∀ i, i < len → w.cell? ⟨b, off + i, none⟩ = some (.int .i64 (zs i))) (hr : ∀ i, i < len → 100 ≤ zs i ∧ zs i ≤ 999) :
    Calls Try.prog 11 #[.slice (some ⟨b, off, none⟩) len cap] w fun e w' => e = .returned (.slice (some ⟨w.heap.size, 0, none⟩) len len) ∧ Below w.heap.size w w' ∧
      Row w' w.heap.size 27 len (fun i => .int .u64 (part (zs i) 3)) := by
  go_enter Try.func11, Try.ntmps11
  go_wp2_with fail
  refine (digitsOf_some b off len cap zs _ hlen hb hc hr).mono ?_
  rintro e w1 ⟨rfl, hbel, hrow⟩
  go_wp2
  go_ret
  exact ⟨rfl, hbel, hrow⟩

theorem inside (a b : Int) (w : World) (ha : 100 ≤ a) (ha2 : a ≤ 999) (hb : 100 ≤ b) (hb2 : b ≤ 999) :
    Calls Try.prog 4 #[.int .i64 a, .int .i64 b] w fun e w' => e = .returned (.bool true) ∧ Below w.heap.size w w' := by
  have h1 : decide (a < 100) = false := by simpa using ha
  have h2 : decide (999 < a) = false := by simpa using ha2
  have h3 : decide (b < 100) = false := by simpa using hb
  have h4 : decide (999 < b) = false := by simpa using hb2
  go_enter Try.func4, Try.ntmps4
  go_wp2_with fail
  refine (zz_some w.heap.size 0 2 2 (fun i => if i = 0 then a else b) _ (by omega) (by simp) ?_ ?_).mono ?_
  · intro i hi
    have : i = 0 ∨ i = 1 := by omega
    rcases this with rfl | rfl <;> simp
  · intro i hi
    have : i = 0 ∨ i = 1 := by omega
    rcases this with rfl | rfl <;> simp <;> omega
  rintro e w1 ⟨rfl, hbel, hrow⟩
  have c0 := hrow.cell (j := 0) (by omega)
  have c1 := hrow.cell (j := 1) (by omega)
  simp at c0 c1
  have hbl : Below w.heap.size w w1 := ((Below.refl _ _).alloc (Nat.le_refl _) _).trans (hbel.mono (by simp))
  clear hbel hrow
  rcases Int.lt_trichotomy a b with h | h | h
  · have p := part_lt ha hb2 h
    have q1 : decide (a < b) = true := by simpa using h
    have q2 : decide (part a 3 < part b 3) = true := by simpa using p
    have q3 : (a == b) = false := by simp; omega
    have q4 : (part a 3 == part b 3) = false := by simp; omega
    go_wp2
    go_quiet (fail)
    go_wp2
    go_ret
    exact ⟨rfl, below_drewN hbl _⟩
  · subst h
    have q1 : decide (a < a) = false := by simp
    have q2 : decide (part a 3 < part a 3) = false := by simp
    have q3 : (a == a) = true := by simp
    have q4 : (part a 3 == part a 3) = true := by simp
    go_wp2
    go_quiet (fail)
    go_wp2
    go_ret
    exact ⟨rfl, below_drewN hbl _⟩
  · have p := part_lt hb ha2 h
    have q1 : decide (a < b) = false := by simp; omega
    have q2 : decide (part a 3 < part b 3) = false := by simp; omega
    have q3 : (a == b) = false := by simp; omega
    have q4 : (part a 3 == part b 3) = false := by simp; omega
    go_wp2
    go_quiet (fail)
    go_wp2
    go_ret
    exact ⟨rfl, below_drewN hbl _⟩

theorem walk (a0 : Int) (a1 : Int) (w0 : (Lit.int .i64 a0).wf = true) (w1 : (Lit.int .i64 a1).wf = true) (w : World) :
    Calls Try.prog 4 #[.int .i64 a0, .int .i64 a1] w fun e w' => e = .returned (.bool true) ∧ Below w.heap.size w w' := by
  by_cases h1 : a0 < 100
  · go_enter Try.func4, Try.ntmps4
    go_wp2
    go_ret
    exact ⟨rfl, Below.refl _ _⟩
  by_cases h2 : 999 < a0
  · go_enter Try.func4, Try.ntmps4
    go_wp2
    go_ret
    exact ⟨rfl, Below.refl _ _⟩
  by_cases h3 : a1 < 100
  · go_enter Try.func4, Try.ntmps4
    go_wp2
    go_ret
    exact ⟨rfl, Below.refl _ _⟩
  by_cases h4 : 999 < a1
  · go_enter Try.func4, Try.ntmps4
    go_wp2
    go_ret
    exact ⟨rfl, Below.refl _ _⟩
  exact inside a0 a1 w (by omega) (by omega) (by omega) (by omega)

set_option maxRecDepth 100000 in
theorem lifted (os : Os) (started : os.Started) (H : Type) (enc : TypeId × Value → H) :
    ReturnsInHanded {} Try.checked os 4 .any (Rows.fnDigitsOfKeepsOrderSpec.pre6 enc Try.prog Try.f4 Rows.fnDigitsOfKeepsOrderRow.domain false) (Rows.fnDigitsOfKeepsOrderSpec.post enc Try.prog Try.f4 false true false false) := by
  refine returnsInHanded_of_change (C := Try.checked) own started (by kernel_rfl) Try.func4
    (ChangeSpec.witness6 (enc := enc) (C := Try.checked) false ⟨#[], #[.int .i64 0, .int .i64 0], []⟩ 8 (by kernel_rfl) (by kernel_rfl) (by kernel_rfl) (by kernel_rfl)) ?_
  intro W base args ds gs before hval0 hW hcnd _
  have hval : ∀ (j : Nat) t v, Try.f4.params[j]? = some t → args[j]? = some v → Value.okWide Try.prog W .any base t v := hval0
  have hW' := hW
  obtain ⟨p, q, hA0, hV, rfl, hfz, hnd⟩ := hW
  have hA : DataW.TrodAll enc Try.prog W 0 (fun _ => true) true Try.f4.params.toList args.toList ds p := hA0
  rw [Try.params4] at hA hval
  obtain ⟨v0, vs0, d0, ds0, p0, q0, hargs, rfl, rfl, h0, r0⟩ := trodAll_cons hA
  obtain ⟨v1, vs1, d1, ds1, p1, q1, rfl, rfl, rfl, h1, r1⟩ := trodAll_cons r0
  obtain ⟨rfl, rfl, rfl⟩ := trodAll_nil r1
  obtain rfl : args = #[v0, v1] := by cases args; simp_all
  obtain ⟨rfl, rfl⟩ := trodVars_none hV
  obtain ⟨a0, rfl, rfl, rfl, w0⟩ := open_int Try.underlying3 (hval 0 3 v0 rfl rfl) h0
  obtain ⟨a1, rfl, rfl, rfl, w1⟩ := open_int Try.underlying3 (hval 1 3 v1 rfl rfl) h1
  clear hA0 hval0
  refine (walk a0 a1 w0 w1 W).mono fun e W' ⟨he, bel⟩ => ?_
  subst he
  exact ⟨_, rfl, _, _, _, [], _, [], hW', trodAll_mk1 (shut_bool Try.underlying4 _), (trodAll_cons_mk (shut_int Try.underlying3 w0) (trodAll_cons_mk (shut_int Try.underlying3 w1) trodAll_mk0)), rfl, bel.frame _, fun h => by cases h⟩

theorem over : Rows.fnDigitsOfKeepsOrderRow.holds Try.pinned (OpenSpec.ofChange Rows.fnDigitsOfKeepsOrderSpec) :=
  OpenClaim.holds_of_wide 4 Try.f4 rfl rfl rfl rfl rfl rfl rfl ⟨rfl, rfl, rfl, rfl, rfl⟩ rfl rfl rfl rfl rfl (by kernel_rfl) Try.func4 (by kernel_rfl)
    (of_decide_eq_true (by kernel_rfl)) (by unfold Func.isWrapper; first | (rw [if_pos (by decide +kernel)]; kernel_rfl) | (rw [if_neg (by decide +kernel)]; exact ⟨rfl, rfl⟩))
    (fun os started H enc _ => lifted os started H enc)

/-- THE STATEMENT -/
theorem proved : Rows.FnDigitsOfKeepsOrderSaid := over
#print axioms proved
end Go.Proofs.Qxb6601726a.fnDigitsOfKeepsOrder
