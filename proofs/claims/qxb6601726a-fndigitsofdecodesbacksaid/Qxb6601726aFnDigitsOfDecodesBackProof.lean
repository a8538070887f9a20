import Derived.Test.Qxb6601726aDigits
import Derived.Test.Qxb6601726aClones
namespace Go.Proofs.Qxb6601726a.fnDigitsOfDecodesBack
open Go.ChangeShapes Go.WideShapes Go.ChangeAt Go.RowKit
open Go.ChangeMaps (open_string shut_string)
set_option linter.unusedVariables false

theorem own : ownKnob Try.prog.godebug = none := by kernel_rfl
theorem laidOut : laidOutB Try.prog = true := by kernel_rfl

def IsRow (k : IntKind) (w : World) (a : Option Addr) (len cap : Nat) (zs : List Int) : Prop :=
  (a = none ∧ len = 0 ∧ cap = 0 ∧ zs = []) ∨
  ∃ x, a = some x ∧ len ≤ cap ∧ cap ≤ maxLen ∧ zs.length = cap ∧ (∀ i, i < zs.length → w.cell? (x.add i) = some (.int k (zs.getD i 0))) ∧ ∀ n ∈ zs, (Lit.int k n).wf = true

theorem zz_some (b off len cap : Nat) (zs : Nat → Int) (w : World) (hlen : len ≤ 1048576) (hb : b < w.heap.size)
    (hc : ∀ i, i < len → w.cell? ⟨b, off + i, none⟩ = some (.int .i64 (zs i))) (hr : ∀ i, i < len → 100 ≤ zs i ∧ zs i ≤ 999) :
    Calls Try.prog 11 #[.slice (some ⟨b, off, none⟩) len cap] w fun e w' => e = .returned (.slice (some ⟨w.heap.size, 0, none⟩) len len) ∧ Below w.heap.size w w' ∧
      Row w' w.heap.size 27 len (fun i => .int .u64 (part (zs i) 3)) := by
  go_enter Try.func11, Try.ntmps11
  go_wp2_with fail
  refine (digitsOf_some b off len cap zs _ hlen hb hc hr).mono ?_
  rintro e w1 ⟨rfl, hbel, hrow⟩
  go_wp2
  go_ret
  exact ⟨rfl, hbel, hrow⟩

theorem bytes_yes (a : Option Addr) (len cap : Nat) (w : World) (h : len ≤ 1048576) :
    Calls Try.prog 9 #[.slice a len cap] w fun e w' => e = .returned (.bool true) ∧ w = w' := by
  go_enter Try.func9, Try.ntmps9
  go_wp2
  go_ret
  exact ⟨rfl, rfl⟩

theorem bytes_no (a : Option Addr) (len cap : Nat) (w : World) (h : 1048576 < len) :
    Calls Try.prog 9 #[.slice a len cap] w fun e w' => e = .returned (.bool false) ∧ w = w' := by
  go_enter Try.func9, Try.ntmps9
  go_wp2
  go_ret
  exact ⟨rfl, rfl⟩

theorem isDigit_yes (c : Int) (w : World) (h : 48 ≤ c) (h2 : c ≤ 57) :
    Calls Try.prog 12 #[.int .u8 c] w fun e w' => e = .returned (.bool true) ∧ w = w' := by
  go_enter Try.func12, Try.ntmps12
  go_wp2
  go_ret
  exact ⟨by simp, rfl⟩

theorem part_split (x : Int) (h1 : 100 ≤ x) (h2 : x ≤ 999) : ∃ H T O : Int, 49 ≤ H ∧ H ≤ 57 ∧ 48 ≤ T ∧ T ≤ 57 ∧ 48 ≤ O ∧ O ≤ 57 ∧ part x 3 = (H * 256 + T) * 256 + O ∧ (H - 48) * 100 + (T - 48) * 10 + (O - 48) = x := by
  refine ⟨48 + x / 100, 48 + x / 10 % 10, 48 + x % 10, by omega, by omega, by omega, by omega, by omega, by omega, rfl, by omega⟩

set_option maxHeartbeats 400000 in
theorem inside (b off len cap : Nat) (zs : Nat → Int) (w : World) (hlen : len ≤ 131072) (hlp : 0 < len) (hb : b < w.heap.size)
    (hc : ∀ i, i < len → w.cell? ⟨b, off + i, none⟩ = some (.int .i64 (zs i))) (hr : ∀ i, i < len → 100 ≤ zs i ∧ zs i ≤ 999) :
    Calls Try.prog 3 #[.slice (some ⟨b, off, none⟩) len cap] w fun e w' => e = .returned (.bool true) ∧ Below w.heap.size w w' := by
  go_enter Try.func3, Try.ntmps3
  go_wp2_with (go_at_call 9; refine (bytes_yes _ _ _ _ (by omega)).mono ?_; rintro e w' ⟨rfl, rfl⟩)
  go_loop [3] (fun i => ∃ k : Nat, k ≤ len ∧ i = .int .i64 k) (fun i => len - (intOf i).toNat)
  case atStart => exact ⟨0, Nat.zero_le _, rfl⟩
  case round =>
    obtain ⟨k, hk, rfl⟩ := hrel
    by_cases hlt : k < len
    · have hck := hc k hlt
      have hrk := hr k hlt
      obtain ⟨hr1, hr2⟩ := hrk
      go_wp2
      go_round
      case rel => exact ⟨k + 1, by omega, by go_num⟩
      case measure => simp [intOf]; omega
    · go_wp2_with fail
      refine (cloneInts_some b off len cap zs _ (by omega) hb hc).mono ?_
      rintro e w1 ⟨rfl, hbel1, hrow1⟩
      go_wp2_with fail
      refine (zz_some w.heap.size 0 len len zs _ (by omega) hrow1.lt (fun i hi => by rw [Nat.zero_add]; exact hrow1.cell hi) hr).mono ?_
      rintro e w2 ⟨rfl, hbel2, hrow2⟩
      have hrow3 := hrow1.below hbel2 hrow1.lt
      have hbel : Below w.heap.size w w2 := hbel1.trans (hbel2.mono hbel1.size)
      clear hbel1 hbel2 hrow1
      go_wp2
      go_loop [5] (fun i => ∃ k : Nat, k ≤ len ∧ i = .int .i64 k) (fun i => len - (intOf i).toNat)
      case atStart => exact ⟨0, Nat.zero_le _, rfl⟩
      case round =>
        obtain ⟨j, hj, rfl⟩ := hrel
        by_cases hjl : j < len
        · have c1 := hrow2.cell hjl
          have c2 := hrow3.cell hjl
          obtain ⟨hr1, hr2⟩ := hr j hjl
          obtain ⟨x, hx⟩ : ∃ x, x = zs j := ⟨_, rfl⟩
          rw [← hx] at c1 c2 hr1 hr2
          clear hx
          obtain ⟨H, T, O, a1, a2, a3, a4, a5, a6, e1, e2⟩ := part_split x hr1 hr2
          rw [e1] at c1
          rw [← e2] at c2
          clear e1 e2 hr1 hr2
          go_wp2_with (go_at_call 12; refine (isDigit_yes _ _ (by omega) (by omega)).mono ?_; rintro e w' ⟨rfl, rfl⟩)
          go_round
          case rel => exact ⟨j + 1, by omega, by go_num⟩
          case measure => simp [intOf]; omega
        · go_wp2
          go_ret
          exact ⟨rfl, hbel⟩

/-- The first status that has not three digits. -/
theorem bad (b off len cap k0 : Nat) (zs : Nat → Int) (w : World) (hlen : len ≤ 131072) (hk0 : k0 < len)
    (hc : ∀ i, i < len → w.cell? ⟨b, off + i, none⟩ = some (.int .i64 (zs i))) (hr : ∀ i, i < k0 → 100 ≤ zs i ∧ zs i ≤ 999) (hbad : zs k0 < 100 ∨ 999 < zs k0) :
    Calls Try.prog 3 #[.slice (some ⟨b, off, none⟩) len cap] w fun e w' => e = .returned (.bool true) ∧ Below w.heap.size w w' := by
  go_enter Try.func3, Try.ntmps3
  go_wp2_with (go_at_call 9; refine (bytes_yes _ _ _ _ (by omega)).mono ?_; rintro e w' ⟨rfl, rfl⟩)
  go_loop [3] (fun i => ∃ k : Nat, k ≤ k0 ∧ i = .int .i64 k) (fun i => len - (intOf i).toNat)
  case atStart => exact ⟨0, Nat.zero_le _, rfl⟩
  case round =>
    obtain ⟨k, hk, rfl⟩ := hrel
    have hck := hc k (by omega)
    by_cases hlt : k < k0
    · obtain ⟨hr1, hr2⟩ := hr k hlt
      go_wp2
      go_round
      case rel => exact ⟨k + 1, by omega, by go_num⟩
      case measure => simp [intOf]; omega
    · obtain rfl : k = k0 := by omega
      by_cases h1 : zs k < 100
      · clear hbad hr
        go_wp2
        go_ret
        exact ⟨rfl, Below.refl _ _⟩
      · have h2 : 999 < zs k := by omega
        clear hbad hr
        go_wp2
        go_ret
        exact ⟨rfl, Below.refl _ _⟩

theorem long (a : Option Addr) (len cap : Nat) (w : World) (h : 131072 < len) (hm : len ≤ 9223372036854775807) :
    Calls Try.prog 3 #[.slice a len cap] w fun e w' => e = .returned (.bool true) ∧ Below w.heap.size w w' := by
  by_cases h2 : len ≤ 1048576
  · go_enter Try.func3, Try.ntmps3
    go_wp2_with (go_at_call 9; refine (bytes_yes _ _ _ _ (by omega)).mono ?_; rintro e w' ⟨rfl, rfl⟩)
    go_ret
    exact ⟨rfl, Below.refl _ _⟩
  · go_enter Try.func3, Try.ntmps3
    go_wp2_with (go_at_call 9; refine (bytes_no _ _ _ _ (by omega)).mono ?_; rintro e w' ⟨rfl, rfl⟩)
    go_ret
    exact ⟨rfl, Below.refl _ _⟩

theorem clone_empty (x : Addr) (cap : Nat) (w : World) :
    Calls Try.prog 10 #[.slice (some x) 0 cap] w fun e w' => e = .returned (.slice (some ⟨w.heap.size, 0, none⟩) 0 0) ∧ Below w.heap.size w w' := by
  obtain ⟨i0, hi, hz0, hz1, hz2⟩ := info_parts Try.info3
  have hnil := fun wx => Lib.run_eql_slice_nil (P := Try.prog) wx 22 3 (some x) 0 cap 0 0 Try.underlying22
  go_enter Try.func10, Try.ntmps10
  go_wp2_with (first | (at_make; refine wpList_make_full _ rfl _ _ 22 rfl w.heap.size 3 i0 (.int .i64 0) 1 Try.underlying22 hi hz0 hz1 _ _ _ _ 0 rfl rfl rfl rfl ?b1 ?b2 ?b3 ?_) | go_in)
  case b1 => omega
  case b2 => unfold maxLen; omega
  case b3 => simp
  intro w1 hown hgrow
  have hbel0 : Below w.heap.size w w1 := (Below.refl _ _).grown hgrow (Nat.le_refl _) (by simp)
  clear hown hgrow
  go_wp2
  refine wp_loop_rounds 1 ?_
  rw [rounds_succ]
  go_wp2
  go_ret
  exact ⟨rfl, hbel0⟩

theorem clone_nil (w : World) :
    Calls Try.prog 10 #[.slice none 0 0] w fun e w' => e = .returned (.slice none 0 0) ∧ w = w' := by
  have hnil := fun wx => Lib.run_eql_slice_nil (P := Try.prog) wx 22 3 none 0 0 0 0 Try.underlying22
  go_enter Try.func10, Try.ntmps10
  go_wp2
  go_ret
  exact ⟨rfl, rfl⟩

theorem digits_empty (a : Option Addr) (cap : Nat) (w : World) :
    Calls Try.prog 27 #[.slice a 0 cap] w fun e w' => e = .returned (.slice (some ⟨w.heap.size, 0, none⟩) 0 0) ∧ Below w.heap.size w w' := by
  obtain ⟨i0, hi, hz0, hz1, hz2⟩ := info_parts Try.info27
  go_enter Try.func27, Try.ntmps27
  go_wp2_with (first | (at_make; refine wpList_make_full _ rfl _ _ 25 rfl w.heap.size 27 i0 (.int .u64 0) 1 Try.underlying25 hi hz0 hz1 _ _ _ _ 0 rfl rfl rfl rfl ?b1 ?b2 ?b3 ?_) | go_in)
  case b1 => omega
  case b2 => unfold maxLen; omega
  case b3 => simp
  intro w1 hown hgrow
  have hbel0 : Below w.heap.size w w1 := (Below.refl _ _).grown hgrow (Nat.le_refl _) (by simp)
  clear hown hgrow
  go_wp2
  refine wp_loop_rounds 1 ?_
  rw [rounds_succ]
  go_wp2
  go_ret
  exact ⟨rfl, hbel0⟩

theorem zz_empty (a : Option Addr) (cap : Nat) (w : World) :
    Calls Try.prog 11 #[.slice a 0 cap] w fun e w' => e = .returned (.slice (some ⟨w.heap.size, 0, none⟩) 0 0) ∧ Below w.heap.size w w' := by
  go_enter Try.func11, Try.ntmps11
  go_wp2_with fail
  refine (digits_empty a cap _).mono ?_
  rintro e w1 ⟨rfl, hbel⟩
  go_wp2
  go_ret
  exact ⟨rfl, hbel⟩

theorem empty_some (x : Addr) (cap : Nat) (w : World) :
    Calls Try.prog 3 #[.slice (some x) 0 cap] w fun e w' => e = .returned (.bool true) ∧ Below w.heap.size w w' := by
  go_enter Try.func3, Try.ntmps3
  go_wp2_with (go_at_call 9; refine (bytes_yes _ _ _ _ (by omega)).mono ?_; rintro e w' ⟨rfl, rfl⟩)
  refine wp_loop_rounds 1 ?_
  rw [rounds_succ]
  go_wp2_with fail
  refine (clone_empty x cap _).mono ?_
  rintro e w1 ⟨rfl, hbel1⟩
  go_wp2_with fail
  refine (zz_empty _ _ _).mono ?_
  rintro e w2 ⟨rfl, hbel2⟩
  have hbel : Below w.heap.size w w2 := hbel1.trans (hbel2.mono hbel1.size)
  clear hbel1 hbel2
  go_wp2
  refine wp_loop_rounds 1 ?_
  rw [rounds_succ]
  go_wp2
  go_ret
  exact ⟨rfl, hbel⟩

theorem empty_nil (w : World) :
    Calls Try.prog 3 #[.slice none 0 0] w fun e w' => e = .returned (.bool true) ∧ Below w.heap.size w w' := by
  go_enter Try.func3, Try.ntmps3
  go_wp2_with (go_at_call 9; refine (bytes_yes _ _ _ _ (by omega)).mono ?_; rintro e w' ⟨rfl, rfl⟩)
  refine wp_loop_rounds 1 ?_
  rw [rounds_succ]
  go_wp2_with fail
  refine (clone_nil _).mono ?_
  rintro e w1 ⟨rfl, rfl⟩
  go_wp2_with fail
  refine (zz_empty _ _ _).mono ?_
  rintro e w2 ⟨rfl, hbel⟩
  go_wp2
  refine wp_loop_rounds 1 ?_
  rw [rounds_succ]
  go_wp2
  go_ret
  exact ⟨rfl, hbel⟩

theorem first_bad (zs : Nat → Int) (len : Nat) : (∀ i, i < len → 100 ≤ zs i ∧ zs i ≤ 999) ∨ ∃ k0, k0 < len ∧ (∀ i, i < k0 → 100 ≤ zs i ∧ zs i ≤ 999) ∧ (zs k0 < 100 ∨ 999 < zs k0) := by
  induction len with
  | zero => exact .inl fun i hi => by omega
  | succ n ih =>
    rcases ih with h | ⟨k0, h1, h2, h3⟩
    · by_cases hn : 100 ≤ zs n ∧ zs n ≤ 999
      · refine .inl fun i hi => ?_
        by_cases e : i = n
        · subst e; exact hn
        · exact h i (by omega)
      · exact .inr ⟨n, by omega, h, by omega⟩
    · exact .inr ⟨k0, by omega, h2, h3⟩

theorem walk (a0 : Option Addr) (len0 cap0 : Nat) (z0 : List Int) (w : World) (w0 : IsRow .i64 w a0 len0 cap0 z0) :
    Calls Try.prog 3 #[.slice a0 len0 cap0] w fun e w' => e = .returned (.bool true) ∧ Below w.heap.size w w' := by
  rcases w0 with ⟨rfl, rfl, rfl, rfl⟩ | ⟨x, rfl, hl, hm, hz, hcell, hwz⟩
  · exact empty_nil w
  unfold maxLen at hm
  by_cases h0 : len0 = 0
  · subst h0
    exact empty_some x cap0 w
  by_cases h1 : 131072 < len0
  · exact long _ _ _ w h1 (by omega)
  obtain ⟨b, off, spot⟩ := x
  have hspot : spot = none := by simpa [Addr.add] using World.cell?_spot (hcell 0 (by omega))
  subst hspot
  have hc : ∀ i, i < len0 → w.cell? ⟨b, off + i, none⟩ = some (.int .i64 (z0.getD i 0)) := fun i hi => by rw [← add_plain]; exact hcell i (by omega)
  have hb : b < w.heap.size := World.block_lt_of_cell? w _ (hc 0 (by omega))
  rcases first_bad (fun i => z0.getD i 0) len0 with h | ⟨k0, g1, g2, g3⟩
  · exact inside b off len0 cap0 (fun i => z0.getD i 0) w (by omega) (by omega) hb hc h
  · exact bad b off len0 cap0 k0 (fun i => z0.getD i 0) w (by omega) g1 hc g2 g3

set_option maxRecDepth 100000 in
theorem lifted (os : Os) (started : os.Started) (H : Type) (enc : TypeId × Value → H) :
    ReturnsInHanded {} Try.checked os 3 .any (Rows.fnDigitsOfDecodesBackSpec.pre6 enc Try.prog Try.f3 Rows.fnDigitsOfDecodesBackRow.domain false) (Rows.fnDigitsOfDecodesBackSpec.post enc Try.prog Try.f3 false true false false) := by
  refine returnsInHanded_of_change (C := Try.checked) own started (by kernel_rfl) Try.func3
    (ChangeSpec.witness6 (enc := enc) (C := Try.checked) false ⟨#[], #[.slice none 0 0], []⟩ 8 (by kernel_rfl) (by kernel_rfl) (by kernel_rfl) (by kernel_rfl)) ?_
  intro W base args ds gs before hval0 hW hcnd _
  have hval : ∀ (j : Nat) t v, Try.f3.params[j]? = some t → args[j]? = some v → Value.okWide Try.prog W .any base t v := hval0
  have hW' := hW
  obtain ⟨p, q, hA0, hV, rfl, hfz, hnd⟩ := hW
  have hA : DataW.TrodAll enc Try.prog W 0 (fun _ => true) true Try.f3.params.toList args.toList ds p := hA0
  rw [Try.params3] at hA hval
  obtain ⟨v0, vs0, d0, ds0, p0, q0, hargs, rfl, rfl, h0, r0⟩ := trodAll_cons hA
  obtain ⟨rfl, rfl, rfl⟩ := trodAll_nil r0
  obtain rfl : args = #[v0] := by cases args; simp_all
  obtain ⟨rfl, rfl⟩ := trodVars_none hV
  obtain ⟨a0, len0, cap0, rfl⟩ := okWide_slice Try.underlying22 (hval 0 22 v0 rfl rfl)
  have k0 := h0
  have lt0 : ∀ x ∈ p0, x.block < W.heap.size := by obtain ⟨m, hm⟩ := k0; exact DataW.trod_lt m _ _ _ hm
  obtain ⟨z0, w0⟩ : ∃ zs, IsRow .i64 W a0 len0 cap0 zs := by
    obtain ⟨fuel, hf⟩ := h0
    rcases open_ints Try.underlying22 Try.underlying3 (by kernel_rfl) hf with ⟨hcs, _⟩ | ⟨x, l, c, zs, hcs, _, hl, hm, hz, _, hcell, hwz⟩
    · simp [Value.cells] at hcs
      obtain ⟨rfl, rfl, rfl⟩ := hcs
      exact ⟨[], .inl ⟨rfl, rfl, rfl, rfl⟩⟩
    · simp [Value.cells] at hcs
      obtain ⟨rfl, rfl, rfl⟩ := hcs
      exact ⟨zs, .inr ⟨_, rfl, hl, hm, by simpa using hz, hcell, hwz⟩⟩
  clear hA0 hval0
  refine (walk a0 len0 cap0 z0 W w0).mono fun e W' ⟨he, bel⟩ => ?_
  subst he
  exact ⟨_, rfl, _, _, _, [], _, [], hW', trodAll_mk1 (shut_bool Try.underlying4 _), (trodAll_cons_mk (Below.trod laidOut (by kernel_rfl) (of_decide_eq_true (by kernel_rfl)) k0 bel lt0) trodAll_mk0), rfl, bel.frame _, fun h => by cases h⟩

theorem over : Rows.fnDigitsOfDecodesBackRow.holds Try.pinned (OpenSpec.ofChange Rows.fnDigitsOfDecodesBackSpec) :=
  OpenClaim.holds_of_wide 3 Try.f3 rfl rfl rfl rfl rfl rfl rfl ⟨rfl, rfl, rfl, rfl, rfl⟩ rfl rfl rfl rfl rfl (by kernel_rfl) Try.func3 (by kernel_rfl)
    (of_decide_eq_true (by kernel_rfl)) (by unfold Func.isWrapper; first | (rw [if_pos (by decide +kernel)]; kernel_rfl) | (rw [if_neg (by decide +kernel)]; exact ⟨rfl, rfl⟩))
    (fun os started H enc _ => lifted os started H enc)

/-- THE STATEMENT -/
theorem proved : Rows.FnDigitsOfDecodesBackSaid := over
#print axioms proved
end Go.Proofs.Qxb6601726a.fnDigitsOfDecodesBack
