import Derived.Test.Qxb6601726aMem
import Derived.WalkSpells
import Derived.Outline
namespace Go.Proofs.Qxb6601726a
open Go.ChangeShapes Go.WideShapes Go.ChangeAt Go.RowKit

theorem Try.info3 : (Try.prog.info? 3).map (fun i => (i.zero, i.size, i.bytes)) = some (some (.int .i64 0), 1, 8) := by kernel_rfl
theorem Try.info9 : (Try.prog.info? 9).map (fun i => (i.zero, i.size, i.bytes)) = some (some (.string ByteArray.empty), 1, 16) := by kernel_rfl
theorem Try.info5 : (Try.prog.info? 5).map (fun i => (i.zero, i.size, i.bytes)) = some (some (.int .u8 0), 1, 1) := by kernel_rfl

theorem rel_copy {w wr : World} {e : TypeId} {len k : Nat} {f : Nat → Value} {z : Value} (hbel : Below w.heap.size w wr)
    (hrow : Row wr w.heap.size e len (fun i => if i < k then f i else z)) :
    Below w.heap.size w (wr.setCell ⟨w.heap.size, k, none⟩ (f k)) ∧ Row (wr.setCell ⟨w.heap.size, k, none⟩ (f k)) w.heap.size e len (fun i => if i < k + 1 then f i else z) := by
  refine ⟨hbel.setCell (Nat.le_refl _) _, (hrow.set k (f k)).cong fun i hi => ?_⟩
  by_cases h : i = k
  · subst h; simp
  · by_cases h2 : i < k
    · simp [h, h2]; omega
    · simp [h, h2]; omega

theorem cloneInts_some (b off len cap : Nat) (zs : Nat → Int) (w : World) (hlen : len ≤ 1048576) (hb : b < w.heap.size)
    (hc : ∀ i, i < len → w.cell? ⟨b, off + i, none⟩ = some (.int .i64 (zs i))) :
    Calls Try.prog 10 #[.slice (some ⟨b, off, none⟩) len cap] w fun e w' => e = .returned (.slice (some ⟨w.heap.size, 0, none⟩) len len) ∧ Below w.heap.size w w' ∧
      Row w' w.heap.size 3 len (fun i => .int .i64 (zs i)) := by
  obtain ⟨i0, hi, hz0, hz1, hz2⟩ := info_parts Try.info3
  have hnil := fun wx => Lib.run_eql_slice_nil (P := Try.prog) wx 22 3 (some ⟨b, off, none⟩) len cap 0 0 Try.underlying22
  go_enter Try.func10, Try.ntmps10
  go_wp2_with (first | (at_make; refine wpList_make_full _ rfl _ _ 22 rfl w.heap.size 3 i0 (.int .i64 0) 1 Try.underlying22 hi hz0 hz1 _ _ _ _ len rfl rfl rfl rfl ?b1 ?b2 ?b3 ?_) | go_in)
  case b1 => rw [hz2]; omega
  case b2 => unfold maxLen; omega
  case b3 => simp
  intro w1 hown hgrow
  have hrow0 := Row.make hown
  have hbel0 : Below w.heap.size w w1 := (Below.refl _ _).grown hgrow (Nat.le_refl _) (by simp)
  clear hown hgrow
  go_wp2
  go_loopw [4] (fun i wr => ∃ k : Nat, k ≤ len ∧ i = .int .i64 k ∧ Below w.heap.size w wr ∧ Row wr w.heap.size 3 len (fun i => if i < k then .int .i64 (zs i) else .int .i64 0))
    (fun i _ => len - (intOf i).toNat)
  case atStart => exact ⟨0, Nat.zero_le _, rfl, hbel0, hrow0.cong (by simp)⟩
  case round =>
    obtain ⟨k, hk, rfl, hbel, hrow⟩ := hrel
    clear hrow0 hbel0
    by_cases hlt : k < len
    · have hck := (hbel.cell (p := ⟨b, off + k, none⟩) hb).trans (hc k hlt)
      have hqf := hrow.free k
      have hq := hrow.cell hlt
      simp at hq
      go_wp2
      go_roundw
      case rel => exact ⟨k + 1, by omega, by go_num, rel_copy (f := fun i => .int .i64 (zs i)) hbel hrow⟩
      case measure => simp [intOf]; omega
    · go_wp2
      go_ret
      refine ⟨rfl, hbel, hrow.cong fun j hj => ?_⟩
      rw [if_pos (by omega)]

theorem cloneStrings_some (b off len cap : Nat) (zs : Nat → ByteArray) (w : World) (hlen : len ≤ 1048576) (hb : b < w.heap.size)
    (hc : ∀ i, i < len → w.cell? ⟨b, off + i, none⟩ = some (.string (zs i))) :
    Calls Try.prog 16 #[.slice (some ⟨b, off, none⟩) len cap] w fun e w' => e = .returned (.slice (some ⟨w.heap.size, 0, none⟩) len len) ∧ Below w.heap.size w w' ∧
      Row w' w.heap.size 9 len (fun i => .string (zs i)) := by
  obtain ⟨i0, hi, hz0, hz1, hz2⟩ := info_parts Try.info9
  have hnil := fun wx => Lib.run_eql_slice_nil (P := Try.prog) wx 31 9 (some ⟨b, off, none⟩) len cap 0 0 Try.underlying31
  go_enter Try.func16, Try.ntmps16
  go_wp2_with (first | (at_make; refine wpList_make_full _ rfl _ _ 31 rfl w.heap.size 9 i0 (.string ByteArray.empty) 1 Try.underlying31 hi hz0 hz1 _ _ _ _ len rfl rfl rfl rfl ?b1 ?b2 ?b3 ?_) | go_in)
  case b1 => rw [hz2]; omega
  case b2 => unfold maxLen; omega
  case b3 => simp
  intro w1 hown hgrow
  have hrow0 := Row.make hown
  have hbel0 : Below w.heap.size w w1 := (Below.refl _ _).grown hgrow (Nat.le_refl _) (by simp)
  clear hown hgrow
  go_wp2
  go_loopw [4] (fun i wr => ∃ k : Nat, k ≤ len ∧ i = .int .i64 k ∧ Below w.heap.size w wr ∧ Row wr w.heap.size 9 len (fun i => if i < k then .string (zs i) else .string ByteArray.empty))
    (fun i _ => len - (intOf i).toNat)
  case atStart => exact ⟨0, Nat.zero_le _, rfl, hbel0, hrow0.cong (by simp)⟩
  case round =>
    obtain ⟨k, hk, rfl, hbel, hrow⟩ := hrel
    clear hrow0 hbel0
    by_cases hlt : k < len
    · have hck := (hbel.cell (p := ⟨b, off + k, none⟩) hb).trans (hc k hlt)
      have hqf := hrow.free k
      have hq := hrow.cell hlt
      simp at hq
      go_wp2
      go_roundw
      case rel => exact ⟨k + 1, by omega, by go_num, rel_copy (f := fun i => .string (zs i)) hbel hrow⟩
      case measure => simp [intOf]; omega
    · go_wp2
      go_ret
      refine ⟨rfl, hbel, hrow.cong fun j hj => ?_⟩
      rw [if_pos (by omega)]

theorem cloneBytes_some (b off len cap : Nat) (zs : Nat → Int) (w : World) (hlen : len ≤ 1048576) (hb : b < w.heap.size)
    (hc : ∀ i, i < len → w.cell? ⟨b, off + i, none⟩ = some (.int .u8 (zs i))) :
    Calls Try.prog 17 #[.slice (some ⟨b, off, none⟩) len cap] w fun e w' => e = .returned (.slice (some ⟨w.heap.size, 0, none⟩) len len) ∧ Below w.heap.size w w' ∧
      Row w' w.heap.size 5 len (fun i => .int .u8 (zs i)) := by
  obtain ⟨i0, hi, hz0, hz1, hz2⟩ := info_parts Try.info5
  have hnil := fun wx => Lib.run_eql_slice_nil (P := Try.prog) wx 32 5 (some ⟨b, off, none⟩) len cap 0 0 Try.underlying32
  go_enter Try.func17, Try.ntmps17
  go_wp2_with (first | (at_make; refine wpList_make_full _ rfl _ _ 32 rfl w.heap.size 5 i0 (.int .u8 0) 1 Try.underlying32 hi hz0 hz1 _ _ _ _ len rfl rfl rfl rfl ?b1 ?b2 ?b3 ?_) | go_in)
  case b1 => rw [hz2]; omega
  case b2 => unfold maxLen; omega
  case b3 => simp
  intro w1 hown hgrow
  have hrow0 := Row.make hown
  have hbel0 : Below w.heap.size w w1 := (Below.refl _ _).grown hgrow (Nat.le_refl _) (by simp)
  clear hown hgrow
  go_wp2
  go_loopw [4] (fun i wr => ∃ k : Nat, k ≤ len ∧ i = .int .i64 k ∧ Below w.heap.size w wr ∧ Row wr w.heap.size 5 len (fun i => if i < k then .int .u8 (zs i) else .int .u8 0))
    (fun i _ => len - (intOf i).toNat)
  case atStart => exact ⟨0, Nat.zero_le _, rfl, hbel0, hrow0.cong (by simp)⟩
  case round =>
    obtain ⟨k, hk, rfl, hbel, hrow⟩ := hrel
    clear hrow0 hbel0
    by_cases hlt : k < len
    · have hck := (hbel.cell (p := ⟨b, off + k, none⟩) hb).trans (hc k hlt)
      have hqf := hrow.free k
      have hq := hrow.cell hlt
      simp at hq
      go_wp2
      go_roundw
      case rel => exact ⟨k + 1, by omega, by go_num, rel_copy (f := fun i => .int .u8 (zs i)) hbel hrow⟩
      case measure => simp [intOf]; omega
    · go_wp2
      go_ret
      refine ⟨rfl, hbel, hrow.cong fun j hj => ?_⟩
      rw [if_pos (by omega)]
end Go.Proofs.Qxb6601726a
