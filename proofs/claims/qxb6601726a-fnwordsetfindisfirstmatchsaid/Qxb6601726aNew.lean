import Derived.Test.Qxb6601726aReg7
import Derived.Test.Qxb6601726aReg8
import Derived.Test.Qxb6601726aLoop4
namespace Go.Proofs.Qxb6601726a
open Go.ChangeShapes Go.WideShapes Go.ChangeAt Go.RowKit
set_option linter.unusedVariables false

/-- s is the set of the m words ss: all its parts, by what they must be. -/
structure IsSet (ss : Nat → ByteArray) (m : Nat) (s : WS) : Prop where
  good : s.Good
  hm : s.m = m
  ln : s.ln = fun j => (ss j).size
  tx : s.tx = fun j k => bt (ss j) k
  la : s.la = fun j => lastOf (ss j)
  sk : ∀ p, p < 65536 → TabAt (shK ss m) (Pd (shK ss m) m 1) (pairOf ss (shK ss m)) p (s.sk p)
  ag : ∀ q, q < m → AgAt (shK ss m) (Pd (shK ss m) m 1) (pairOf ss (shK ss m)) (lastOf (ss q)) (s.ag q)

def mkWS (ss : Nat → ByteArray) (m : Nat) (sk ag : Nat → Int) : WS :=
  ⟨m, fun p => if p < 65536 then sk p else 0, fun j => (ss j).size, fun j k => bt (ss j) k, fun j => lastOf (ss j), fun j => if j < m then ag j else 1⟩

theorem mk_isSet {ss : Nat → ByteArray} {m : Nat} {sk ag : Nat → Int} (hr : ∀ i, i < m → 2 ≤ (ss i).size ∧ (ss i).size ≤ 64)
    (hT : ∀ p, p < 65536 → TabAt (shK ss m) (Pd (shK ss m) m 1) (pairOf ss (shK ss m)) p (sk p)) (hA : ∀ q, q < m → AgAt (shK ss m) (Pd (shK ss m) m 1) (pairOf ss (shK ss m)) (lastOf (ss q)) (ag q)) : IsSet ss m (mkWS ss m sk ag) := by
  have h64 := shK_le ss m
  refine ⟨⟨fun p => ?_, fun j => ?_, fun j hj => hr j hj, fun j k => bt_bounds _ _, fun j => ?_⟩, rfl, rfl, rfl, rfl, fun p hp => ?_, fun q hq => ?_⟩
  · show 0 ≤ (if p < 65536 then sk p else 0) ∧ (if p < 65536 then sk p else 0) ≤ 255
    by_cases h : p < 65536
    · rw [if_pos h]; have := (hT p h).lo; have := (hT p h).hi; omega
    · rw [if_neg h]; omega
  · show 1 ≤ (if j < m then ag j else 1) ∧ (if j < m then ag j else 1) ≤ 255
    by_cases h : j < m
    · rw [if_pos h]; have := (hA j h).lo; have := (hA j h).hi; omega
    · rw [if_neg h]; omega
  · have := pr_bounds (bt (ss j) ((ss j).size - 2)) (bt (ss j) ((ss j).size - 1)) (bt_bounds _ _).1 (bt_bounds _ _).2 (bt_bounds _ _).1 (bt_bounds _ _).2
    exact ⟨this.1, by have := this.2; show lastOf (ss j) ≤ 65535; unfold lastOf; omega⟩
  · show TabAt _ _ _ p (if p < 65536 then sk p else 0)
    rw [if_pos hp]; exact hT p hp
  · show AgAt _ _ _ _ (if q < m then ag q else 1)
    rw [if_pos hq]; exact hA q hq

theorem M2.lies {w wr : World} {ss : Nat → ByteArray} {m : Nat} {ao : Option Addr} {gw cw sh : Nat} {lo : Int} {tb cp : Nat → Nat} {sk ag : Nat → Int} (h : M2 w wr ss m ao gw cw sh lo tb cp (fun p => .int .u8 (sk p)) ag) (hm : m ≤ 1048576) :
    Lies wr (w.heap.size + 1) w.heap.size gw cw ao tb cp sh lo (mkWS ss m sk ag) := by
  refine ⟨h.c0, h.c1, h.c2, h.c3, fun p hp => ?_, h.at0, ⟨h.cap, hm⟩, fun j hj => h.w0 hj, fun j hj => h.w1 hj, fun j hj => ?_, fun j k hj hk => h.bytes hj hk⟩
  · show _ = some (Value.int .u8 (if p < 65536 then sk p else 0))
    rw [if_pos hp]; exact h.table.cell hp
  · show _ = some (Value.int .u8 (if j < m then ag j else 1))
    have hj' : j < m := hj
    rw [if_pos hj']; exact h.w2 hj

theorem mid_start {w : World} {zc : Array Value} {ss : Nat → ByteArray} (hz : zc.size = 65536) :
    Mid w ((w.alloc (.cells zc 47)).alloc (.cells #[.slice none 0 0, .int .i64 64, .int .i64 0, .pointer (some ⟨w.heap.size, 0, none⟩)] 50)) ss 0 (.slice none 0 0) (shK ss 0 : Nat) 0 (fun _ => 0) (fun _ => 0) := by
  refine ⟨((Below.refl _ _).alloc (Nat.le_refl _) _).alloc (by simp) _, heap_alloc2_new _ _ _, ⟨fun j => zc[j]?.getD undef, zc, heap_alloc2_old _ _ _, hz, fun j hj => ?_⟩, World.ownsRow_nil _ _ _ _, fun j hj => by omega, fun j hj => by omega⟩
  have e : zc[j]? = some (zc[j]'(by omega)) := Array.getElem?_eq_getElem (by omega)
  show zc[j]? = some (zc[j]?.getD undef)
  rw [e]; rfl

set_option maxRecDepth 100000 in
set_option maxHeartbeats 4000000 in
theorem new_any (ai : Option Addr) (b off len cap : Nat) (ss : Nat → ByteArray) (w : World) (hlen : len ≤ 1048576) (hai : 0 < len → ai = some ⟨b, off, none⟩)
    (hc : ∀ i, i < len → w.cell? ⟨b, off + i, none⟩ = some (.string (ss i))) (hr : ∀ i, i < len → 2 ≤ (ss i).size ∧ (ss i).size ≤ 64) :
    Calls Try.prog 28 #[.slice ai len cap] w fun e w' => e = .returned (.pointer (some ⟨w.heap.size + 1, 0, none⟩)) ∧ Below w.heap.size w w' ∧
      ∃ s gw cw ao tb cp lo, IsSet ss len s ∧ Lies w' (w.heap.size + 1) w.heap.size gw cw ao tb cp (shK ss len : Nat) lo s := by
  obtain ⟨zc, hzs, hrun⟩ := alloc47
  have HRUN := hide hrun
  have HZ := hide hzs
  have HR := hide hr
  have HC := hide hc
  clear hrun hzs hr hc
  go_enter Try.func28, Try.ntmps28
  go_wp2_with (refine wpList_alloc_of _ rfl 47 rfl zc (unhide HRUN) ?_)
  go_loopw [20] (fun q wr => ∃ (k : Nat) (v : Value) (lo : Int) (tb cp : Nat → Nat), k ≤ len ∧ q = .int .i64 k ∧ Mid w wr ss k v (shK ss k : Nat) lo tb cp)
    (fun q _ => len - (intOf q).toNat)
  case atStart => exact ⟨0, _, 0, fun _ => 0, fun _ => 0, Nat.zero_le _, rfl, mid_start (unhide HZ)⟩
  case round =>
    obtain ⟨k, v, lo, tb, cp, hk, rfl, hmid⟩ := hrel
    by_cases hlt : k < len
    · have hck := cell_stays hmid.below (Nat.le_refl _) (unhide HC k hlt)
      obtain ⟨hs1, hs2⟩ := unhide HR k hlt
      have hai' := hai (by omega)
      obtain ⟨s, hs⟩ : ∃ s, s = ss k := ⟨_, rfl⟩
      rw [← hs] at hck hs1 hs2
      have HS := hide hs
      have HM := hide hmid
      clear hs hmid hai
      subst hai'
      go_wp2
      refine region7 _ _ _ _ _ _ _ _ _ _ _ _ _ _ _ _ _ _ _ _ _ _ _ _ _ _ _ _ _ _ _ _ _ _ _ _ _ _ _ _ _ _ _ _ _ _ _ _ _ _ _ _ _ _ _ _ _ _ _ _ _ _ _ _ _ _ _ _ _ _ _ _ _ _ _ _ _ _ _ _ _ _ _ _ _ _ _ _ _ _ _ _ _ _ _ _ _ _ _ _ _ _ _ _ _ _ _ _ _ _ _ _ _ _ _ _ _ _ _ _ _ _ _ _ _ _ _ _ _ _ _ _ _ _ _ _ _ _ _ _ _ _ _ _ _ _ _ _ _ _ _ _ _ _ _ _ _ _ _ _ _ _ _ _ _ _ _ _ _ _ _ _ _ _ _ _ _ _ _ _ _ _ _ _ _ _ _ _ _ _ _ _ _ _ _ _ _ _ _ _ _ _ _ w _ ss k v _ lo tb cp s (by omega) HS hs1 hs2 (unhide HM) _ (hide ?_)
      intro wx v' tb' cp' x33 x34 x35 x36 x37 x38 x39 x40 x41 x42 x43 x44 x45 x46 x47 x48 x49 x50 hm1
      have HM1 := hide hm1
      clear hm1
      go_wp2
      refine region8 _ _ _ _ _ _ _ _ _ _ _ _ _ _ _ _ _ _ _ _ _ _ _ _ _ _ _ _ _ _ _ _ _ _ _ _ _ _ _ _ _ _ _ _ _ _ _ _ _ _ _ _ _ _ _ _ _ _ _ _ _ _ _ _ _ _ _ _ _ _ _ _ _ _ _ _ _ _ _ _ _ _ _ _ _ _ _ _ _ _ _ _ _ _ _ _ _ _ _ _ _ _ _ _ _ _ _ _ _ _ _ _ _ _ _ _ _ _ _ _ _ _ _ _ _ _ _ _ _ _ _ _ _ _ _ _ _ _ _ _ _ _ _ _ _ _ _ _ _ _ _ _ _ _ _ _ _ _ _ _ _ _ _ _ _ _ _ _ _ _ _ _ _ _ _ _ _ _ _ _ _ _ _ _ _ _ _ _ _ _ _ _ _ _ _ _ _ _ _ _ _ _ _ w _ ss (k + 1) v' _ lo tb' cp' s (unhide HM1) _ (hide ?_)
      intro wy y51 y52 y53 y54 y55 y56 y57 y58 y59 y60 y61 y62 y63 y64 y65 y66 y67 y68 y69 y70 hm2
      have HM2 := hide hm2
      clear hm2
      go_wp2
      go_roundw
      case rel =>
        refine ⟨k + 1, v', max lo s.size, tb', cp', by omega, by go_num, ?_⟩
        have e : ((shK ss (k + 1) : Nat) : Int) = min ((shK ss k : Nat) : Int) (s.size : Int) := by rw [shK, unhide HS]; omega
        rw [e]
        exact unhide HM2
      case measure => simp [intOf]; omega
    · obtain rfl : k = len := by omega
      obtain ⟨ao, gw, cw, tv, rfl, hm2⟩ := M2.of_mid hmid
      have hg2 := shK_ge ss k (fun i hi => (unhide HR i hi).1)
      have hl64 := shK_le ss k
      have HSZ : Hid (∀ j, j < k → shK ss k ≤ (ss j).size ∧ (ss j).size ≤ 64) := fun j hj => ⟨shK_le_size ss k j hj, (unhide HR j hj).2⟩
      have HM := hide hm2
      clear hm2 hmid hai
      go_wp2
      refine loop2 _ _ _ _ _ _ _ _ _ _ _ _ _ _ _ _ _ _ _ _ _ _ _ _ _ _ _ _ _ _ _ _ _ _ _ _ _ _ _ _ _ _ _ _ _ _ _ _ _ _ _ _ _ _ _ _ _ _ _ _ _ _ _ _ _ _ _ _ _ _ _ _ _ _ _ _ _ _ _ _ _ _ _ _ _ _ _ _ _ _ _ _ _ _ _ _ _ _ _ _ _ _ _ _ _ _ _ _ _ _ _ _ _ _ _ _ _ _ _ _ _ _ _ _ _ _ _ _ _ _ _ _ _ _ _ _ _ _ _ _ _ _ _ _ _ _ _ _ _ _ _ _ _ _ _ _ _ _ _ _ _ _ _ _ _ _ _ _ _ _ _ _ _ _ _ _ _ _ _ _ _ _ _ _ _ _ _ _ _ _ _ _ _ _ _ _ _ _ _ _ _ _ _ w _ ss k ao gw cw (shK ss k) lo tb cp _ _ (unhide HM) hg2 hl64 _ (hide ?_)
      intro wx x6 x72 x73 x74 x75 x76 x77 x78 x79 x80 x81 x82 x83 x84 x85 x86 x87 x88 hm2
      have HM2 := hide hm2
      have e0 := hm2.c0
      clear hm2
      go_wp2
      refine loop3 _ _ _ _ _ _ _ _ _ _ _ _ _ _ _ _ _ _ _ _ _ _ _ _ _ _ _ _ _ _ _ _ _ _ _ _ _ _ _ _ _ _ _ _ _ _ _ _ _ _ _ _ _ _ _ _ _ _ _ _ _ _ _ _ _ _ _ _ _ _ _ _ _ _ _ _ _ _ _ _ _ _ _ _ _ _ _ _ _ _ _ _ _ _ _ _ _ _ _ _ _ _ _ _ _ _ _ _ _ _ _ _ _ _ _ _ _ _ _ _ _ _ _ _ _ _ _ _ _ _ _ _ _ _ _ _ _ _ _ _ _ _ _ _ _ _ _ _ _ _ _ _ _ _ _ _ _ _ _ _ _ _ _ _ _ _ _ _ _ _ _ _ _ _ _ _ _ _ _ _ _ _ _ _ _ _ _ _ _ _ _ _ _ _ _ _ _ _ _ _ _ _ w _ ss k ao gw cw (shK ss k) lo tb cp _ _ (unhide HM2) hg2 hl64 hlen _ (hide ?_)
      intro wy y7 y94 y95 y96 y97 y98 y99 y100 y101 y102 y103 y104 y105 y106 y107 y108 y109 y110 hm3
      have HM3 := hide hm3
      have e1 := hm3.c0
      clear hm3 e0
      go_wp2
      refine loop4 _ _ _ _ _ _ _ _ _ _ _ _ _ _ _ _ _ _ _ _ _ _ _ _ _ _ _ _ _ _ _ _ _ _ _ _ _ _ _ _ _ _ _ _ _ _ _ _ _ _ _ _ _ _ _ _ _ _ _ _ _ _ _ _ _ _ _ _ _ _ _ _ _ _ _ _ _ _ _ _ _ _ _ _ _ _ _ _ _ _ _ _ _ _ _ _ _ _ _ _ _ _ _ _ _ _ _ _ _ _ _ _ _ _ _ _ _ _ _ _ _ _ _ _ _ _ _ _ _ _ _ _ _ _ _ _ _ _ _ _ _ _ _ _ _ _ _ _ _ _ _ _ _ _ _ _ _ _ _ _ _ _ _ _ _ _ _ _ _ _ _ _ _ _ _ _ _ _ _ _ _ _ _ _ _ _ _ _ _ _ _ _ _ _ _ _ _ _ _ _ _ w _ ss k ao gw cw (shK ss k) lo tb cp (fun _ => ((shK ss k : Nat) : Int) - 1) _ (unhide HM3) hlen hg2 hl64 (unhide HSZ) ?ht ?ha _ (hide ?_)
      case ht => exact fun p hp => TabAt.start (by omega) (fun j i hp => by unfold Pd at hp; omega)
      case ha => exact fun q hq => AgAt.start (by omega) (fun j i hp => by unfold Pd at hp; omega)
      intro wz sk ag z9 z10 z11 z12 z13 z14 z116 z117 z118 z119 z120 z121 z122 z123 z124 z125 z126 z127 z128 z129 z130 z131 z132 z133 z134 z135 z136 z137 z138 z139 z140 z141 z142 z143 z144 z145 z146 z147 z148 z149 z150 z151 z152 z153 z154 z155 z156 z157 z158 z159 z160 z161 z162 z163 z164 z165 z166 z167 z168 z169 z170 z171 z172 z173 z174 z175 z176 z177 z178 z179 z180 z181 z182 z183 z184 z185 z186 z187 z188 z189 z190 z191 z192 z193 z194 z195 z196 z197 z198 z199 z200 z201 z202 z203 hm4 hT hA
      have HM4 := hide hm4
      have HT := hide hT
      have HA := hide hA
      clear hm4 hT hA e1
      go_wp2
      go_ret
      exact ⟨rfl, (unhide HM4).below, _, gw, cw, ao, tb, cp, lo, mk_isSet (unhide HR) (unhide HT) (unhide HA), (unhide HM4).lies hlen⟩

theorem zznew_any (ai : Option Addr) (b off len cap : Nat) (ss : Nat → ByteArray) (w : World) (hlen : len ≤ 1048576) (hai : 0 < len → ai = some ⟨b, off, none⟩)
    (hc : ∀ i, i < len → w.cell? ⟨b, off + i, none⟩ = some (.string (ss i))) (hr : ∀ i, i < len → 2 ≤ (ss i).size ∧ (ss i).size ≤ 64) :
    Calls Try.prog 18 #[.slice ai len cap] w fun e w' => e = .returned (.pointer (some ⟨w.heap.size + 1, 0, none⟩)) ∧ Below w.heap.size w w' ∧
      ∃ s gw cw ao tb cp lo, IsSet ss len s ∧ Lies w' (w.heap.size + 1) w.heap.size gw cw ao tb cp (shK ss len : Nat) lo s := by
  have H := hide (new_any ai b off len cap ss w hlen hai hc hr)
  clear hc hr hai
  go_enter Try.func18, Try.ntmps18
  go_wp2_with fail
  refine (unhide H).mono ?_
  rintro e w1 ⟨rfl, hb, hrest⟩
  have HR := hide hrest
  clear hrest
  go_wp2
  go_ret
  exact ⟨rfl, hb, unhide HR⟩
end Go.Proofs.Qxb6601726a
