import Derived.Test.Qxb6601726aNew
import Derived.Test.Qxb6601726aClones
namespace Go.Proofs.Qxb6601726a
open Go.ChangeShapes Go.WideShapes Go.ChangeAt Go.RowKit
set_option linter.unusedVariables false

/-- A slice of words that lies in memory. -/
structure WordsAt (w : World) (ai : Option Addr) (b off len : Nat) (ss : Nat → ByteArray) : Prop where
  at0 : 0 < len → ai = some ⟨b, off, none⟩
  cells : ∀ i, i < len → w.cell? ⟨b, off + i, none⟩ = some (.string (ss i))
/-- A text that lies in memory. -/
structure TextAt (w : World) (ai : Option Addr) (b off n cap : Nat) (t : Nat → Int) : Prop where
  cap1 : n ≤ cap
  cap2 : cap ≤ 9223372036854775807
  at0 : 0 < n → ai = some ⟨b, off, none⟩
  cells : ∀ i, i < n → w.cell? ⟨b, off + i, none⟩ = some (.int .u8 (t i))
  bytes : ∀ i, 0 ≤ t i ∧ t i ≤ 255

theorem WordsAt.stays {w w' : World} {ai : Option Addr} {b off len : Nat} {ss : Nat → ByteArray} (h : WordsAt w ai b off len ss) (hb : Below w.heap.size w w') : WordsAt w' ai b off len ss :=
  ⟨h.at0, fun i hi => cell_stays hb (Nat.le_refl _) (h.cells i hi)⟩
theorem TextAt.stays {w w' : World} {ai : Option Addr} {b off n cap : Nat} {t : Nat → Int} (h : TextAt w ai b off n cap t) (hb : Below w.heap.size w w') : TextAt w' ai b off n cap t :=
  ⟨h.cap1, h.cap2, h.at0, fun i hi => cell_stays hb (Nat.le_refl _) (h.cells i hi), h.bytes⟩

def PNum (e : Ending) : Prop := ∃ z : Int, 0 ≤ z ∧ z ≤ 1000000000 ∧ e = .returned (.int .i64 z)
def PFit (ss : Nat → ByteArray) (len : Nat) (e : Ending) : Prop := ∃ r : Bool, (r = true → ∀ i, i < len → 2 ≤ (ss i).size ∧ (ss i).size ≤ 64) ∧ e = .returned (.bool r)
def PStr (g : Nat) (w' : World) (ss : Nat → ByteArray) (len : Nat) (e : Ending) : Prop := ∃ ai' cap', e = .returned (.slice ai' len cap') ∧ WordsAt w' ai' g 0 len ss
def PTxt (g : Nat) (w' : World) (t : Nat → Int) (len : Nat) (e : Ending) : Prop := ∃ ai' cap', e = .returned (.slice ai' len cap') ∧ TextAt w' ai' g 0 len cap' t

theorem find_u {S gs gw cw : Nat} {ao : Option Addr} {tb cp : Nat → Nat} {sh lo : Int} {s : WS} {ai : Option Addr} {b off n cap : Nat} {t : Nat → Int} {w : World} (at0 : Int)
    (hS : Lies w S gs gw cw ao tb cp sh lo s) (g : s.Good) (hn : n ≤ 1048576) (ht : TextAt w ai b off n cap t) (hat : at0 ≤ 9223372036854775807) :
    Calls Try.prog 19 #[.pointer (some ⟨S, 0, none⟩), .slice ai n cap, .int .i64 at0] w fun e w' =>
      e = .returned (.tuple #[.bool (findR s n t at0).1, .int .i64 (findR s n t at0).2]) ∧ Below w.heap.size w w' := by
  refine zzfind_of ?_
  by_cases h : n = 0
  · subst h
    exact find_none _ ai cap at0 s t w
  · rw [ht.at0 (by omega)]
    exact find_any S gs gw cw ao tb cp sh lo s b off n cap t at0 w hS g hn ht.cap1 ht.cap2 ht.cells ht.bytes hat

theorem new_u {ai : Option Addr} {b off len cap : Nat} {ss : Nat → ByteArray} {w : World} (hlen : len ≤ 1048576) (h : WordsAt w ai b off len ss) (hr : ∀ i, i < len → 2 ≤ (ss i).size ∧ (ss i).size ≤ 64) :
    Calls Try.prog 18 #[.slice ai len cap] w fun e w' => e = .returned (.pointer (some ⟨w.heap.size + 1, 0, none⟩)) ∧ Below w.heap.size w w' ∧
      ∃ s gw cw ao tb cp lo, IsSet ss len s ∧ Lies w' (w.heap.size + 1) w.heap.size gw cw ao tb cp (shK ss len : Nat) lo s :=
  zznew_any ai b off len cap ss w hlen h.at0 h.cells hr

/-- zzWordBytes: some number, not great. -/
theorem wordBytes_u (ai : Option Addr) (b off len cap : Nat) (ss : Nat → ByteArray) (w : World) (hlen : len ≤ 256) (h : WordsAt w ai b off len ss) (hsz : ∀ i, i < len → (ss i).size ≤ 9223372036854775807) :
    Calls Try.prog 14 #[.slice ai len cap] w fun e w' => PNum e ∧ w = w' := by
  have HH := hide h
  clear h
  have HSZ := hide hsz
  clear hsz
  go_enter Try.func14, Try.ntmps14
  go_wp2
  go_loop [3, 4] (fun n i => ∃ (k : Nat) (z : Int), k ≤ len ∧ i = .int .i64 k ∧ 0 ≤ z ∧ z ≤ (k : Int) * 2000000 ∧ n = .int .i64 z) (fun _ i => len - (intOf i).toNat)
  case atStart => exact ⟨0, 0, Nat.zero_le _, rfl, by omega, by simp, rfl⟩
  case round =>
    obtain ⟨k, z, hk, rfl, hz0, hz1, rfl⟩ := hrel
    by_cases hlt : k < len
    · have hck := (unhide HH).cells k hlt
      have hai := (unhide HH).at0 (by omega)
      have hsz := unhide HSZ k hlt
      clear HH
      subst hai
      by_cases hbig : 1048576 < (ss k).size
      · go_wp2
        go_ret
        exact ⟨⟨1048577, by omega, by omega, rfl⟩, rfl⟩
      · go_wp2
        go_round
        case rel => exact ⟨k + 1, z + (16 + (ss k).size), by omega, by go_num, by omega, by omega, by go_num⟩
        case measure => simp [intOf]; omega
    · clear HH
      go_wp2
      go_ret
      exact ⟨⟨z, hz0, by omega, rfl⟩, rfl⟩

theorem wordsFit_u (ai : Option Addr) (b off len cap : Nat) (ss : Nat → ByteArray) (w : World) (hlen : len ≤ 256) (h : WordsAt w ai b off len ss) (hsz : ∀ i, i < len → (ss i).size ≤ 9223372036854775807) :
    Calls Try.prog 15 #[.slice ai len cap] w fun e w' => PFit ss len e ∧ w = w' := by
  have HH := hide h
  clear h
  have HSZ := hide hsz
  clear hsz
  go_enter Try.func15, Try.ntmps15
  go_wp2
  go_loop [3] (fun i => ∃ (k : Nat), k ≤ len ∧ i = .int .i64 k ∧ Hid (∀ j, j < k → 2 ≤ (ss j).size ∧ (ss j).size ≤ 64)) (fun i => len - (intOf i).toNat)
  case atStart => exact ⟨0, Nat.zero_le _, rfl, fun j hj => by omega⟩
  case round =>
    obtain ⟨k, hk, rfl, HA⟩ := hrel
    by_cases hlt : k < len
    · have hck := (unhide HH).cells k hlt
      have hai := (unhide HH).at0 (by omega)
      have hsz := unhide HSZ k hlt
      clear HH
      subst hai
      by_cases h2 : (ss k).size < 2
      · go_wp2
        go_ret
        exact ⟨⟨false, by simp, rfl⟩, rfl⟩
      · by_cases h3 : 64 < (ss k).size
        · go_wp2
          go_ret
          exact ⟨⟨false, by simp, rfl⟩, rfl⟩
        · go_wp2
          go_round
          case rel =>
            refine ⟨k + 1, by omega, by go_num, fun j hj => ?_⟩
            by_cases e : j = k
            · subst e; omega
            · exact HA.out j (by omega)
          case measure => simp [intOf]; omega
    · clear HH
      go_wp2
      go_ret
      exact ⟨⟨true, fun _ i hi => HA.out i (by omega), rfl⟩, rfl⟩

theorem cloneStrings_u (ai : Option Addr) (b off len cap : Nat) (ss : Nat → ByteArray) (w : World) (hlen : len ≤ 256) (h : WordsAt w ai b off len ss) (hcap : ai = none → len = 0 ∧ cap = 0) :
    Calls Try.prog 16 #[.slice ai len cap] w fun e w' => PStr w.heap.size w' ss len e ∧ Below w.heap.size w w' := by
  by_cases h0 : len = 0
  · subst h0
    cases ai with
    | none =>
      obtain ⟨_, rfl⟩ := hcap rfl
      have hnil := fun wx => Lib.run_eql_slice_nil (P := Try.prog) wx 31 9 none 0 0 0 0 Try.underlying31
      clear h hcap
      go_enter Try.func16, Try.ntmps16
      go_wp2
      go_ret
      exact ⟨⟨none, 0, rfl, fun h => by omega, fun i hi => by omega⟩, Below.refl _ _⟩
    | some x =>
      obtain ⟨i0, hi, hz0, hz1, hz2⟩ := info_parts Try.info9
      have hnil := fun wx => Lib.run_eql_slice_nil (P := Try.prog) wx 31 9 (some x) 0 cap 0 0 Try.underlying31
      clear h hcap
      go_enter Try.func16, Try.ntmps16
      go_wp2_with (first | (at_make; refine wpList_make_full _ rfl _ _ 31 rfl w.heap.size 9 i0 (.string ByteArray.empty) 1 Try.underlying31 hi hz0 hz1 _ _ _ _ 0 rfl rfl rfl rfl ?b1 ?b2 ?b3 ?_) | go_in)
      case b1 => omega
      case b2 => unfold maxLen; omega
      case b3 => simp
      intro w1 hown hgrow
      have hbel0 : Below w.heap.size w w1 := (Below.refl _ _).grown hgrow (Nat.le_refl _) (by simp)
      clear hown hgrow
      go_wp2
      refine wp_loop_rounds 1 ?_
      rw [rounds_succ]
      go_wp2
      go_ret
      exact ⟨⟨_, _, rfl, fun h => by omega, fun i hi => by omega⟩, hbel0⟩
  · rw [h.at0 (by omega)]
    have hb : b < w.heap.size := World.block_lt_of_cell? w _ (h.cells 0 (by omega))
    refine (cloneStrings_some b off len cap ss w (by omega) hb h.cells).mono ?_
    rintro e w' ⟨rfl, hbel, hrow⟩
    exact ⟨⟨_, _, rfl, fun _ => rfl, fun i hi => by rw [Nat.zero_add]; exact hrow.cell hi⟩, hbel⟩

theorem cloneBytes_u (ai : Option Addr) (b off len cap : Nat) (t : Nat → Int) (w : World) (hlen : len ≤ 65536) (h : TextAt w ai b off len cap t) (hcap : ai = none → len = 0 ∧ cap = 0) :
    Calls Try.prog 17 #[.slice ai len cap] w fun e w' => PTxt w.heap.size w' t len e ∧ Below w.heap.size w w' := by
  by_cases h0 : len = 0
  · subst h0
    cases ai with
    | none =>
      obtain ⟨_, rfl⟩ := hcap rfl
      have hnil := fun wx => Lib.run_eql_slice_nil (P := Try.prog) wx 32 5 none 0 0 0 0 Try.underlying32
      have hbt := hide h.bytes
      clear h hcap
      go_enter Try.func17, Try.ntmps17
      go_wp2
      go_ret
      exact ⟨⟨none, 0, rfl, Nat.le_refl _, by omega, fun h => by omega, fun i hi => by omega, hbt.out⟩, Below.refl _ _⟩
    | some x =>
      obtain ⟨i0, hi, hz0, hz1, hz2⟩ := info_parts Try.info5
      have hnil := fun wx => Lib.run_eql_slice_nil (P := Try.prog) wx 32 5 (some x) 0 cap 0 0 Try.underlying32
      have hbt := hide h.bytes
      clear h hcap
      go_enter Try.func17, Try.ntmps17
      go_wp2_with (first | (at_make; refine wpList_make_full _ rfl _ _ 32 rfl w.heap.size 5 i0 (.int .u8 0) 1 Try.underlying32 hi hz0 hz1 _ _ _ _ 0 rfl rfl rfl rfl ?b1 ?b2 ?b3 ?_) | go_in)
      case b1 => omega
      case b2 => unfold maxLen; omega
      case b3 => simp
      intro w1 hown hgrow
      have hbel0 : Below w.heap.size w w1 := (Below.refl _ _).grown hgrow (Nat.le_refl _) (by simp)
      clear hown hgrow
      go_wp2
      refine wp_loop_rounds 1 ?_
      rw [rounds_succ]
      go_wp2
      go_ret
      exact ⟨⟨_, _, rfl, Nat.le_refl _, by omega, fun h => by omega, fun i hi => by omega, hbt.out⟩, hbel0⟩
  · rw [h.at0 (by omega)]
    have hb : b < w.heap.size := World.block_lt_of_cell? w _ (h.cells 0 (by omega))
    refine (cloneBytes_some b off len cap t w (by omega) hb h.cells).mono ?_
    rintro e w' ⟨rfl, hbel, hrow⟩
    exact ⟨⟨_, _, rfl, Nat.le_refl _, by omega, fun _ => rfl, fun i hi => by rw [Nat.zero_add]; exact hrow.cell hi, h.bytes⟩, hbel⟩
end Go.Proofs.Qxb6601726a
