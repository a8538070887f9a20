import Derived.Test.Qxb6602079aPay
import Derived.Laws.StructEq
namespace Go.Proofs.Qxb6602079a
open Go.ChangeShapes Go.WideShapes Go.ChangeAt Go.RowKit
set_option linter.unusedVariables false

/-- The header that withPayload sees at p. -/
def hdr (proto : Int) (n : Nat) (t : Nat → Int) (p : Int) : Int × Bool := if p < n then thl proto (n - p.toNat) (fun i => t (p.toNat + i)) else thl proto 0 (fun _ => 0)

theorem hdr_cases (proto : Int) (n : Nat) (t : Nat → Int) (p : Int) (ht : ∀ i, 0 ≤ t i ∧ t i ≤ 255) : (∃ v, hdr proto n t p = (v, true) ∧ 8 ≤ v ∧ v ≤ 60) ∨ (∃ v, hdr proto n t p = (v, false)) := by
  unfold hdr
  by_cases h : p < n
  · rw [if_pos h]; exact thl_cases _ _ _ (ht _)
  · rw [if_neg h]; exact thl_cases _ _ _ (by omega)

theorem pay_u (lk ip il po up pl pn : Int) (ai : Option Addr) (b off n cap : Nat) (t : Nat → Int) (p proto : Int) (w : World) (hp0 : 0 ≤ proto) (hp1 : proto ≤ 255) (hn : n ≤ 1048576) (h : TextAt w ai b off n cap t)
    (hpp : 0 ≤ p) (hpm : p ≤ 9223372036854775747) (hf0 : -9223372036854775808 ≤ ip + il) (hf1 : ip + il ≤ 9223372036854775807) :
    Calls Try.prog 14 #[lay lk ip il po up pl pn, .slice ai n cap, .int .i64 p, .int .u8 proto] w fun e w' =>
      e = .returned (lay lk ip il po up (payF (hdr proto n t p) p (ip + il) pl pn).1 (payF (hdr proto n t p) p (ip + il) pl pn).2) ∧ Below w.heap.size w w' := by
  unfold hdr
  by_cases hpn : p < n
  · rw [if_pos hpn]
    exact pay_in lk ip il po up pl pn ai b off n cap t p proto w hp0 hp1 hn h hpp hpn hf0 hf1
  · rw [if_neg hpn]
    exact pay_out lk ip il po up pl pn ai b off n cap t p proto w hp0 hp1 hn h hpp hpm (by omega) hf0 hf1

theorem TextAt.stays {w w' : World} {ai : Option Addr} {b off n cap : Nat} {t : Nat → Int} (h : TextAt w ai b off n cap t) (hb : Below w.heap.size w w') : TextAt w' ai b off n cap t :=
  ⟨h.cap1, h.cap2, h.at0, fun i hi => cell_stays hb (Nat.le_refl _) (h.cells i hi), h.bytes⟩

set_option maxRecDepth 100000 in
set_option maxHeartbeats 1000000 in
theorem zzpay_u (lk ip il po up pl pn : Int) (ai : Option Addr) (b off n cap : Nat) (t : Nat → Int) (p proto : Int) (w : World) (hp0 : 0 ≤ proto) (hp1 : proto ≤ 255) (hn : n ≤ 1048576) (h : TextAt w ai b off n cap t)
    (hpp : 0 ≤ p) (hpm : p ≤ 9223372036854775747) (hf0 : -9223372036854775808 ≤ ip + il) (hf1 : ip + il ≤ 9223372036854775807) :
    Calls Try.prog 12 #[lay lk ip il po up pl pn, .slice ai n cap, .int .i64 p, .int .u8 proto] w fun e w' =>
      e = .returned (lay lk ip il po up (payF (hdr proto n t p) p (ip + il) pl pn).1 (payF (hdr proto n t p) p (ip + il) pl pn).2) ∧ Below w.heap.size w w' := by
  have HH := hide h
  clear h
  have HP := hide (fun (W : World) (hT : TextAt W ai b off n cap t) => pay_u lk ip il po up pl pn ai b off n cap t p proto W hp0 hp1 hn hT hpp hpm hf0 hf1)
  generalize (payF (hdr proto n t p) p (ip + il) pl pn).1 = x at HP ⊢
  generalize (payF (hdr proto n t p) p (ip + il) pl pn).2 = y at HP ⊢
  unfold lay at *
  go_enter Try.func12, Try.ntmps12
  go_wp2_with fail
  refine (unhide HP _ ((unhide HH).stays (two_below _ _ _))).mono ?_
  rintro e w1 ⟨rfl, hb⟩
  have hsz : w.heap.size + 1 < w1.heap.size := by have := hb.size; simp at this; omega
  have k0 := hb.cell (p := ⟨w.heap.size + 1, 0, none⟩) (by simp)
  have k1 := hb.cell (p := ⟨w.heap.size + 1, 1, none⟩) (by simp)
  have k2 := hb.cell (p := ⟨w.heap.size + 1, 2, none⟩) (by simp)
  have k3 := hb.cell (p := ⟨w.heap.size + 1, 3, none⟩) (by simp)
  have k4 := hb.cell (p := ⟨w.heap.size + 1, 4, none⟩) (by simp)
  have k5 := hb.cell (p := ⟨w.heap.size + 1, 5, none⟩) (by simp)
  have k6 := hb.cell (p := ⟨w.heap.size + 1, 6, none⟩) (by simp)
  have f0 := hb.frozen (p := ⟨w.heap.size + 1, 0, none⟩) (by simp)
  have f1 := hb.frozen (p := ⟨w.heap.size + 1, 1, none⟩) (by simp)
  have f2 := hb.frozen (p := ⟨w.heap.size + 1, 2, none⟩) (by simp)
  have f3 := hb.frozen (p := ⟨w.heap.size + 1, 3, none⟩) (by simp)
  have f4 := hb.frozen (p := ⟨w.heap.size + 1, 4, none⟩) (by simp)
  have f5 := hb.frozen (p := ⟨w.heap.size + 1, 5, none⟩) (by simp)
  have f6 := hb.frozen (p := ⟨w.heap.size + 1, 6, none⟩) (by simp)
  simp at k0 k1 k2 k3 k4 k5 k6 f0 f1 f2 f3 f4 f5 f6
  have HB : Hid (Below w.heap.size w w1) := (two_below _ _ _).trans (hb.mono (by simp; omega))
  clear hb
  go_wp2
  refine bodyPost_ret (v := .agg #[.int .u32 lk, .int .i64 ip, .int .i64 il, .int .i64 po, .int .i64 up, .int .i64 x, .int .i64 y]) (by simp [results, Try.results12, go_sem, k0, k1, k2, k3, k4, k5, k6]) rfl ⟨rfl, ?_⟩
  iterate 7 (refine Below.setCell ?_ (by simp) _)
  exact unhide HB
end Go.Proofs.Qxb6602079a
