import Derived.Test.Qxb6602079aMem
import Derived.WalkSpells
import Derived.Outline
namespace Go.Proofs.Qxb6602079a
open Go.ChangeShapes Go.WideShapes Go.ChangeAt Go.RowKit
set_option linter.unusedVariables false

theorem Try.info5 : (Try.prog.info? 5).map (fun i => (i.zero, i.size, i.bytes)) = some (some (.int .u8 0), 1, 1) := by kernel_rfl

def IsRow (k : IntKind) (w : World) (a : Option Addr) (len cap : Nat) (zs : List Int) : Prop :=
  (a = none ∧ len = 0 ∧ cap = 0 ∧ zs = []) ∨
  ∃ x, a = some x ∧ len ≤ cap ∧ cap ≤ maxLen ∧ zs.length = cap ∧ (∀ i, i < zs.length → w.cell? (x.add i) = some (.int k (zs.getD i 0))) ∧ ∀ n ∈ zs, (Lit.int k n).wf = true

/-- A text that lies in memory. -/
structure TextAt (w : World) (ai : Option Addr) (b off n cap : Nat) (t : Nat → Int) : Prop where
  cap1 : n ≤ cap
  cap2 : cap ≤ 9223372036854775807
  at0 : 0 < n → ai = some ⟨b, off, none⟩
  cells : ∀ i, i < n → w.cell? ⟨b, off + i, none⟩ = some (.int .u8 (t i))
  bytes : ∀ i, 0 ≤ t i ∧ t i ≤ 255

theorem rel_copy {w wr : World} {e : TypeId} {len k : Nat} {f : Nat → Value} {z : Value} (hbel : Below w.heap.size w wr)
    (hrow : Row wr w.heap.size e len (fun i => if i < k then f i else z)) :
    Below w.heap.size w (wr.setCell ⟨w.heap.size, k, none⟩ (f k)) ∧ Row (wr.setCell ⟨w.heap.size, k, none⟩ (f k)) w.heap.size e len (fun i => if i < k + 1 then f i else z) := by
  refine ⟨hbel.setCell (Nat.le_refl _) _, (hrow.set k (f k)).cong fun i hi => ?_⟩
  by_cases h : i = k
  · subst h; simp
  · by_cases h2 : i < k
    · simp [h, h2]; omega
    · simp [h, h2]; omega

theorem copy_some (b off len cap : Nat) (zs : Nat → Int) (w : World) (hlen : len ≤ 1048576) (hb : b < w.heap.size)
    (hc : ∀ i, i < len → w.cell? ⟨b, off + i, none⟩ = some (.int .u8 (zs i))) :
    Calls Try.prog 7 #[.slice (some ⟨b, off, none⟩) len cap] w fun e w' => e = .returned (.slice (some ⟨w.heap.size, 0, none⟩) len len) ∧ Below w.heap.size w w' ∧
      Row w' w.heap.size 5 len (fun i => .int .u8 (zs i)) := by
  obtain ⟨i0, hi, hz0, hz1, hz2⟩ := info_parts Try.info5
  have hnil := fun wx => Lib.run_eql_slice_nil (P := Try.prog) wx 22 5 (some ⟨b, off, none⟩) len cap 0 0 Try.underlying22
  go_enter Try.func7, Try.ntmps7
  go_wp2_with (first | (at_make; refine wpList_make_full _ rfl _ _ 22 rfl w.heap.size 5 i0 (.int .u8 0) 1 Try.underlying22 hi hz0 hz1 _ _ _ _ len rfl rfl rfl rfl ?b1 ?b2 ?b3 ?_) | go_in)
  case b1 => rw [hz2]; omega
  case b2 => unfold maxLen; omega
  case b3 => simp
  intro w1 hown hgrow
  have hrow0 := Row.make hown
  have hbel0 : Below w.heap.size w w1 := (Below.refl _ _).grown hgrow (Nat.le_refl _) (by simp)
  clear hown hgrow
  go_wp2
  go_loopw [4] (fun i wr => ∃ k : Nat, k ≤ len ∧ i = .int .i64 k ∧ Below w.heap.size w wr ∧ Row wr w.heap.size 5 len (fun i => if i < k then .int .u8 (zs i) else .int .u8 0))
    (fun i _ => len - (intOf i).toNat)
  case atStart => exact ⟨0, Nat.zero_le _, rfl, hbel0, hrow0.cong (by simp)⟩
  case round =>
    obtain ⟨k, hk, rfl, hbel, hrow⟩ := hrel
    clear hrow0 hbel0
    by_cases hlt : k < len
    · have hck := (hbel.cell (p := ⟨b, off + k, none⟩) hb).trans (hc k hlt)
      have hqf := hrow.free k
      have hq := hrow.cell hlt
      simp at hq
      go_wp2
      go_roundw
      case rel => exact ⟨k + 1, by omega, by go_num, rel_copy (f := fun i => .int .u8 (zs i)) hbel hrow⟩
      case measure => simp [intOf]; omega
    · go_wp2
      go_ret
      refine ⟨rfl, hbel, hrow.cong fun j hj => ?_⟩
      rw [if_pos (by omega)]

def PTxt (g : Nat) (w' : World) (t : Nat → Int) (len : Nat) (e : Ending) : Prop := ∃ ai' cap', e = .returned (.slice ai' len cap') ∧ TextAt w' ai' g 0 len cap' t

theorem copy_u (ai : Option Addr) (b off len cap : Nat) (t : Nat → Int) (w : World) (hlen : len ≤ 1048576) (h : TextAt w ai b off len cap t) (hcap : ai = none → len = 0 ∧ cap = 0) :
    Calls Try.prog 7 #[.slice ai len cap] w fun e w' => PTxt w.heap.size w' t len e ∧ Below w.heap.size w w' := by
  by_cases h0 : len = 0
  · subst h0
    cases ai with
    | none =>
      obtain ⟨_, rfl⟩ := hcap rfl
      have hnil := fun wx => Lib.run_eql_slice_nil (P := Try.prog) wx 22 5 none 0 0 0 0 Try.underlying22
      have hbt := hide h.bytes
      clear h hcap
      go_enter Try.func7, Try.ntmps7
      go_wp2
      go_ret
      exact ⟨⟨none, 0, rfl, Nat.le_refl _, by omega, fun h => by omega, fun i hi => by omega, hbt.out⟩, Below.refl _ _⟩
    | some x =>
      obtain ⟨i0, hi, hz0, hz1, hz2⟩ := info_parts Try.info5
      have hnil := fun wx => Lib.run_eql_slice_nil (P := Try.prog) wx 22 5 (some x) 0 cap 0 0 Try.underlying22
      have hbt := hide h.bytes
      clear h hcap
      go_enter Try.func7, Try.ntmps7
      go_wp2_with (first | (at_make; refine wpList_make_full _ rfl _ _ 22 rfl w.heap.size 5 i0 (.int .u8 0) 1 Try.underlying22 hi hz0 hz1 _ _ _ _ 0 rfl rfl rfl rfl ?b1 ?b2 ?b3 ?_) | go_in)
      case b1 => omega
      case b2 => unfold maxLen; omega
      case b3 => simp
      intro w1 hown hgrow
      have hbel0 : Below w.heap.size w w1 := (Below.refl _ _).grown hgrow (Nat.le_refl _) (by simp)
      clear hown hgrow
      go_wp2
      refine wp_loop_rounds 1 ?_
      rw [rounds_succ]
      go_wp2
      go_ret
      exact ⟨⟨_, _, rfl, Nat.le_refl _, by omega, fun h => by omega, fun i hi => by omega, hbt.out⟩, hbel0⟩
  · rw [h.at0 (by omega)]
    have hb : b < w.heap.size := World.block_lt_of_cell? w _ (h.cells 0 (by omega))
    refine (copy_some b off len cap t w (by omega) hb h.cells).mono ?_
    rintro e w' ⟨rfl, hbel, hrow⟩
    exact ⟨⟨_, _, rfl, Nat.le_refl _, by omega, fun _ => rfl, fun i hi => by rw [Nat.zero_add]; exact hrow.cell hi, h.bytes⟩, hbel⟩

theorem text_of {W : World} {x : Addr} {len cap : Nat} {zs : List Int} (hl : len ≤ cap) (hm : cap ≤ maxLen) (hz : zs.length = cap) (hcell : ∀ i, i < zs.length → W.cell? (x.add i) = some (.int .u8 (zs.getD i 0))) (hwz : ∀ n ∈ zs, (Lit.int .u8 n).wf = true) :
    ∃ b off t, TextAt W (some x) b off len cap t ∧ (some x = none → len = 0 ∧ cap = 0) := by
  unfold maxLen at hm
  by_cases h0 : len = 0
  · subst h0
    exact ⟨0, 0, fun _ => 0, ⟨by omega, by omega, fun h => by omega, fun i hi => by omega, fun i => by omega⟩, fun h => (by cases h)⟩
  · obtain ⟨b, off, spot⟩ := x
    have hspot : spot = none := by simpa [Addr.add] using World.cell?_spot (hcell 0 (by omega))
    subst hspot
    refine ⟨b, off, fun i => zs.getD i 0, ⟨hl, by omega, fun _ => rfl, fun i hi => by rw [← add_plain]; exact hcell i (by omega), fun i => ?_⟩, fun h => (by cases h)⟩
    have hb := range_u8 hwz i
    simpa [List.getD] using hb

theorem text_of_row {W : World} {a : Option Addr} {len cap : Nat} {zs : List Int} (h : IsRow .u8 W a len cap zs) : ∃ b off t, TextAt W a b off len cap t ∧ (a = none → len = 0 ∧ cap = 0) := by
  rcases h with ⟨rfl, rfl, rfl, rfl⟩ | ⟨x, rfl, hl, hm, hz, hcell, hwz⟩
  · exact ⟨0, 0, fun _ => 0, ⟨Nat.le_refl _, by omega, fun h => by omega, fun i hi => by omega, fun i => by omega⟩, fun _ => ⟨rfl, rfl⟩⟩
  · exact text_of hl hm hz hcell hwz

/-- TransportHeaderLen, in plain words: of the text t of length n. -/
def thl (proto : Int) (n : Nat) (t : Nat → Int) : Int × Bool :=
  if proto = 17 then (8, true) else if proto = 6 ∧ 13 ≤ n then (t 12 / 16 * 4, decide (20 ≤ t 12 / 16 * 4)) else (0, false)

theorem thl_any (proto : Int) (ai : Option Addr) (b off n cap : Nat) (t : Nat → Int) (w : World) (hp0 : 0 ≤ proto) (hp1 : proto ≤ 255) (hn : n ≤ 9223372036854775807) (h : TextAt w ai b off n cap t) :
    Calls Try.prog 8 #[.int .u8 proto, .slice ai n cap] w fun e w' => e = .returned (.tuple #[.int .i64 (thl proto n t).1, .bool (thl proto n t).2]) ∧ w = w' := by
  unfold thl
  have HH := hide h
  clear h
  by_cases h1 : proto = 17
  · subst h1
    rw [if_pos rfl]
    go_enter Try.func8, Try.ntmps8
    go_wp2
    go_ret2
    exact ⟨rfl, rfl⟩
  · rw [if_neg h1]
    have g1 : (proto == 17) = false := by simp [h1]
    by_cases h2 : proto = 6
    · subst h2
      by_cases h3 : 13 ≤ n
      · rw [if_pos ⟨rfl, h3⟩]
        have hc := (unhide HH).cells 12 (by omega)
        have ha := (unhide HH).at0 (by omega)
        have hb := (unhide HH).bytes 12
        clear HH
        subst ha
        generalize t 12 = x at *
        obtain ⟨hx0, hx1⟩ := hb
        have hl : (12 : Int) < (n : Int) := by omega
        go_enter Try.func8, Try.ntmps8
        go_wp2
        go_ret2
        exact ⟨rfl, rfl⟩
      · rw [if_neg (by omega)]
        clear HH
        go_enter Try.func8, Try.ntmps8
        go_wp2
        go_ret2
        exact ⟨rfl, rfl⟩
    · rw [if_neg (by omega)]
      have g2 : (proto == 6) = false := by simp [h2]
      clear HH
      go_enter Try.func8, Try.ntmps8
      go_wp2
      go_ret2
      exact ⟨rfl, rfl⟩
end Go.Proofs.Qxb6602079a
