import Derived.Test.Qxb6601726aMem
import Derived.RegionTactic
import Derived.ChangeAlike
import Derived.Deep.QuietTactic
import Derived.BigQuiet
import Derived.Outline
namespace Go.Proofs.Qxb6601726a
open Go.ChangeShapes Go.WideShapes Go.ChangeAt Go.RowKit

theorem Try.info27 : (Try.prog.info? 27).map (fun i => (i.zero, i.size, i.bytes)) = some (some (.int .u64 0), 1, 8) := by kernel_rfl

def part (x : Int) : Nat → Int
  | 0 => 0
  | 1 => 48 + x / 100
  | 2 => (48 + x / 100) * 256 + (48 + x / 10 % 10)
  | _ => ((48 + x / 100) * 256 + (48 + x / 10 % 10)) * 256 + (48 + x % 10)

theorem or256 (A c : Int) (hA : 0 ≤ A) (hA2 : A < 1099511627776) (hc : 0 ≤ c) (hc2 : c < 256) : bits .or .u64 (IntKind.u64.wrap (A * 256)) c = A * 256 + c := by
  obtain ⟨a, rfl⟩ := Int.eq_ofNat_of_zero_le hA
  obtain ⟨d, rfl⟩ := Int.eq_ofNat_of_zero_le hc
  have e1 : IntKind.u64.wrap ((a : Int) * 256) = ((2 ^ 8 * a : Nat) : Int) := by
    simp [IntKind.wrap, IntKind.bits, IntKind.signed]; omega
  rw [e1, u64_or_nat _ _ (by omega) (by omega), ← Nat.two_pow_add_eq_or_of_lt (by omega)]
  omega

theorem part_step0 (x : Int) (h1 : 100 ≤ x) (h2 : x ≤ 999) : bits .or .u64 (IntKind.u64.wrap (part x 0 * 256)) (48 + x / 100 % 10) = part x 1 := by
  rw [or256 _ _ (by simp [part]) (by simp [part]) (by omega) (by omega)]; simp only [part]; omega
theorem part_step1 (x : Int) (h1 : 100 ≤ x) (h2 : x ≤ 999) : bits .or .u64 (IntKind.u64.wrap (part x 1 * 256)) (48 + x / 10 % 10) = part x 2 := by
  rw [or256 _ _ (by simp only [part]; omega) (by simp only [part]; omega) (by omega) (by omega)]; simp only [part]
theorem part_step2 (x : Int) (h1 : 100 ≤ x) (h2 : x ≤ 999) : bits .or .u64 (IntKind.u64.wrap (part x 2 * 256)) (48 + x % 10) = part x 3 := by
  rw [or256 _ _ (by simp only [part]; omega) (by simp only [part]; omega) (by omega) (by omega)]; simp only [part]

/-- One store of the inner loop. -/
theorem rel_step {w wo wr : World} {len k j : Nat} {x u : Int} {zs : Nat → Int} (hbel : Below w.heap.size w wr) (hg : w.heap.size < wo.heap.size)
    (hrow : Row wr w.heap.size 27 len (fun i => .int .u64 (if i < k then part (zs i) 3 else if i = k then part x j else 0)))
    (hlit : Row wr wo.heap.size 3 3 (fun i => .int .i64 (if i = 0 then 100 else if i = 1 then 10 else 1))) (hu : u = part x (j + 1)) :
    Below w.heap.size w (wr.setCell ⟨w.heap.size, k, none⟩ (.int .u64 u)).drew ∧
    Row (wr.setCell ⟨w.heap.size, k, none⟩ (.int .u64 u)).drew w.heap.size 27 len (fun i => .int .u64 (if i < k then part (zs i) 3 else if i = k then part x (j + 1) else 0)) ∧
    Row (wr.setCell ⟨w.heap.size, k, none⟩ (.int .u64 u)).drew wo.heap.size 3 3 (fun i => .int .i64 (if i = 0 then 100 else if i = 1 then 10 else 1)) := by
  refine ⟨(hbel.setCell (Nat.le_refl _) _).drew, ((hrow.set k (.int .u64 u)).cong fun i hi => ?_).drew, (hlit.other _ (by simp; omega)).drew⟩
  by_cases h : i = k
  · subst h; simp [hu]
  · simp [h]

set_option maxHeartbeats 400000 in
theorem digitsOf_some (b off len cap : Nat) (zs : Nat → Int) (w : World) (hlen : len ≤ 1048576) (hb : b < w.heap.size)
    (hc : ∀ i, i < len → w.cell? ⟨b, off + i, none⟩ = some (.int .i64 (zs i))) (hr : ∀ i, i < len → 100 ≤ zs i ∧ zs i ≤ 999) :
    Calls Try.prog 27 #[.slice (some ⟨b, off, none⟩) len cap] w fun e w' => e = .returned (.slice (some ⟨w.heap.size, 0, none⟩) len len) ∧ Below w.heap.size w w' ∧
      Row w' w.heap.size 27 len (fun i => .int .u64 (part (zs i) 3)) := by
  obtain ⟨i0, hi, hz0, hz1, hz2⟩ := info_parts Try.info27
  go_enter Try.func27, Try.ntmps27
  go_wp2_with (first | (at_make; refine wpList_make_full _ rfl _ _ 25 rfl w.heap.size 27 i0 (.int .u64 0) 1 Try.underlying25 hi hz0 hz1 _ _ _ _ len rfl rfl rfl rfl ?b1 ?b2 ?b3 ?_) | go_in)
  case b1 => rw [hz2]; omega
  case b2 => unfold maxLen; omega
  case b3 => simp
  intro w1 hown hgrow
  have hrow0 := Row.make hown
  have hbel0 : Below w.heap.size w w1 := (Below.refl _ _).grown hgrow (Nat.le_refl _) (by simp)
  clear hown hgrow
  go_wp2
  go_loopw [13] (fun i wr => ∃ k : Nat, k ≤ len ∧ i = .int .i64 k ∧ Below w.heap.size w wr ∧ Row wr w.heap.size 27 len (fun i => .int .u64 (if i < k then part (zs i) 3 else 0)))
    (fun i _ => len - (intOf i).toNat)
  case atStart => exact ⟨0, Nat.zero_le _, rfl, hbel0, hrow0.cong (by simp)⟩
  case round =>
    rename World => wo
    obtain ⟨k, hk, rfl, hbel, hrow⟩ := hrel
    clear hrow0 hbel0
    by_cases hlt : k < len
    · have hck := (hbel.cell (p := ⟨b, off + k, none⟩) hb).trans (hc k hlt)
      obtain ⟨x, hx⟩ : ∃ x, x = zs k := ⟨_, rfl⟩
      rw [← hx] at hck
      have hxr := hr k hlt
      rw [← hx] at hxr
      obtain ⟨hx1, hx2⟩ := hxr
      have HX : Hid (x = zs k) := hx
      clear hx
      have hd1 : decide (x < 100) = false := by simpa using hx1
      have hd2 : decide (999 < x) = false := by simpa using hx2
      have hsz := hbel.size
      have hg : w.heap.size < wo.heap.size := hrow.lt
      go_wp2
      go_loopw [27] (fun q wq => ∃ j : Nat, j ≤ 3 ∧ q = .int .i64 j ∧ Below w.heap.size w wq ∧
          Row wq w.heap.size 27 len (fun i => .int .u64 (if i < k then part (zs i) 3 else if i = k then part x j else 0)) ∧
          Row wq wo.heap.size 3 3 (fun i => .int .i64 (if i = 0 then 100 else if i = 1 then 10 else 1)))
        (fun q _ => 3 - (intOf q).toNat)
      case atStart =>
        refine ⟨0, by omega, rfl, hbel.alloc hsz _, (hrow.alloc _).cong fun i hi => ?_, Row.lit wo #[.int .i64 100, .int .i64 10, .int .i64 1] 3 _ fun i hi => ?_⟩
        · simp [part]
        · have : i = 0 ∨ i = 1 ∨ i = 2 := by simp at hi; omega
          rcases this with rfl | rfl | rfl <;> rfl
      case round =>
        obtain ⟨j, hj, rfl, hbelq, hrowq, hlit⟩ := hrel
        have hj3 : j = 0 ∨ j = 1 ∨ j = 2 ∨ j = 3 := by omega
        have hq := hrowq.cell hlt
        simp at hq
        have hqf := hrowq.free k
        rcases hj3 with rfl | rfl | rfl | rfl
        · have hl := hlit.cell (j := 0) (by omega)
          simp at hl
          go_wp2
          go_region
          go_wp2
          go_roundw
          case rel => exact ⟨1, by omega, rfl, rel_step hbelq hg hrowq hlit (part_step0 x hx1 hx2)⟩
          case measure => simp [intOf]
        · have hl := hlit.cell (j := 1) (by omega)
          simp at hl
          go_wp2
          go_region
          go_wp2
          go_roundw
          case rel => exact ⟨2, by omega, rfl, rel_step hbelq hg hrowq hlit (part_step1 x hx1 hx2)⟩
          case measure => simp [intOf]
        · have hl := hlit.cell (j := 2) (by omega)
          simp at hl
          go_wp2
          go_region
          go_wp2
          go_roundw
          case rel => exact ⟨3, by omega, rfl, rel_step hbelq hg hrowq hlit (part_step2 x hx1 hx2)⟩
          case measure => simp [intOf]
        · clear hlit hq hqf
          go_wp2
          go_roundw
          case rel =>
            refine ⟨k + 1, by omega, by go_num, hbelq, hrowq.cong fun i hi => ?_⟩
            by_cases h : i < k
            · rw [if_pos h, if_pos (by omega)]
            · by_cases h2 : i = k
              · subst h2; rw [if_neg h, if_pos rfl, if_pos (by omega), HX.out]
              · rw [if_neg h, if_neg h2, if_neg (by omega)]
          case measure => simp [intOf]; omega
    · go_wp2
      go_ret
      refine ⟨rfl, hbel, hrow.cong fun j hj => ?_⟩
      rw [if_pos (by omega)]
end Go.Proofs.Qxb6601726a
