import Derived.Test.Qxb6602079aPayU
import Derived.Laws.StructEq
namespace Go.Proofs.Qxb6602079a.fnWithPayloadIdempotentWithinPacket
open Go.ChangeShapes Go.WideShapes Go.ChangeAt Go.RowKit
open Go.ChangeMaps (open_string shut_string)
set_option linter.unusedVariables false

theorem own : ownKnob Try.prog.godebug = none := by kernel_rfl
theorem laidOut : laidOutB Try.prog = true := by kernel_rfl

theorem bytes_yes (a0 a1 a2 a3 a4 a5 a6 a8 a9 : Int) (a : Option Addr) (len cap : Nat) (w : World) (h : len ≤ 1048576) :
    Calls Try.prog 11 #[.int .u32 a0, .int .i64 a1, .int .i64 a2, .int .i64 a3, .int .i64 a4, .int .i64 a5, .int .i64 a6, .slice a len cap, .int .i64 a8, .int .u8 a9] w fun e w' => e = .returned (.bool true) ∧ w = w' := by
  go_enter Try.func11, Try.ntmps11
  go_wp2
  go_ret
  exact ⟨rfl, rfl⟩
theorem bytes_no (a0 a1 a2 a3 a4 a5 a6 a8 a9 : Int) (a : Option Addr) (len cap : Nat) (w : World) (h : 1048576 < len) (hm : len ≤ 9223372036854775807) :
    Calls Try.prog 11 #[.int .u32 a0, .int .i64 a1, .int .i64 a2, .int .i64 a3, .int .i64 a4, .int .i64 a5, .int .i64 a6, .slice a len cap, .int .i64 a8, .int .u8 a9] w fun e w' => e = .returned (.bool false) ∧ w = w' := by
  go_enter Try.func11, Try.ntmps11
  go_wp2
  go_ret
  exact ⟨rfl, rfl⟩

theorem payF_idem (H : Int × Bool) (p fin pl pn : Int) : payF H p fin (payF H p fin pl pn).1 (payF H p fin pl pn).2 = payF H p fin pl pn := by
  unfold payF
  by_cases h : H.2 = true ∧ p + H.1 < fin
  · rw [if_pos h, if_pos h]
  · rw [if_neg h, if_neg h]

theorem payF_cases (H : Int × Bool) (p fin pl pn x y : Int) (hcs : (∃ v, H = (v, true) ∧ 8 ≤ v ∧ v ≤ 60) ∨ ∃ v, H = (v, false)) (hx : (payF H p fin pl pn).1 = x) (hy : (payF H p fin pl pn).2 = y) :
    (x = pl ∧ y = pn) ∨ (0 < y ∧ x + y = fin ∧ p + 8 ≤ x ∧ x ≤ p + 60) := by
  unfold payF at hx hy
  by_cases h : H.2 = true ∧ p + H.1 < fin
  · rw [if_pos h] at hx hy
    rcases hcs with ⟨v, rfl, h1, h2⟩ | ⟨v, rfl⟩
    · dsimp only at h hx hy
      right
      omega
    · cases h.1
  · rw [if_neg h] at hx hy
    exact .inl ⟨hx.symm, hy.symm⟩

theorem cell_block {w : World} {g : Nat} {cs : Array Value} (h : w.heap[g]? = some (.cells cs 34)) (i : Nat) (v : Value) (hv : cs[i]? = some v) : w.cell? ⟨g, i, none⟩ = some v := by
  simp [World.cell?, h, hv]

/-- The seven cells of a struct that lies in block g. -/
structure Seven (w : World) (g : Nat) (c0 c1 c2 c3 c4 c5 c6 : Value) : Prop where
  k0 : w.cell? ⟨g, 0, none⟩ = some c0
  k1 : w.cell? ⟨g, 1, none⟩ = some c1
  k2 : w.cell? ⟨g, 2, none⟩ = some c2
  k3 : w.cell? ⟨g, 3, none⟩ = some c3
  k4 : w.cell? ⟨g, 4, none⟩ = some c4
  k5 : w.cell? ⟨g, 5, none⟩ = some c5
  k6 : w.cell? ⟨g, 6, none⟩ = some c6

theorem seven {w : World} {g : Nat} {c0 c1 c2 c3 c4 c5 c6 : Value} (h : w.heap[g]? = some (.cells #[c0, c1, c2, c3, c4, c5, c6] 34)) : Seven w g c0 c1 c2 c3 c4 c5 c6 :=
  ⟨cell_block h 0 _ rfl, cell_block h 1 _ rfl, cell_block h 2 _ rfl, cell_block h 3 _ rfl, cell_block h 4 _ rfl, cell_block h 5 _ rfl, cell_block h 6 _ rfl⟩

theorem blk {W w' : World} {o : Obj} {c : Array Value} (h : Below (W.heap.size + 1) (W.alloc (.cells c 34)) w') : w'.heap[W.heap.size]? = some (.cells c 34) := by
  rw [h.block _ (by omega)]; exact heap_alloc_new _ _

set_option maxRecDepth 100000 in
set_option maxHeartbeats 4000000 in
theorem inside_neg (lk ip il po up pl pn p proto : Int) (ai : Option Addr) (b off n cap : Nat) (t : Nat → Int) (w : World) (hp0 : 0 ≤ proto) (hp1 : proto ≤ 255) (hn : n ≤ 1048576) (h : TextAt w ai b off n cap t) (hnil : ai = none → n = 0 ∧ cap = 0)
    (hpp : 0 ≤ p) (hpm : p ≤ 9223372036854775747) (hi0 : -9223372036854775808 ≤ ip) (hi1 : ip ≤ 9223372036854775807) (hl0 : -9223372036854775808 ≤ il) (hl1 : il ≤ 9223372036854775807)
    (hf0 : -9223372036854775808 ≤ ip + il) (hf1 : ip + il ≤ 9223372036854775807) (hil : il < 0) :
    Calls Try.prog 5 #[.int .u32 lk, .int .i64 ip, .int .i64 il, .int .i64 po, .int .i64 up, .int .i64 pl, .int .i64 pn, .slice ai n cap, .int .i64 p, .int .u8 proto] w fun e w' => e = .returned (.bool true) ∧ Below w.heap.size w w' := by
  have HH := hide h
  have HN := hide hnil
  clear h hnil
  have g0 : decide ((1048576 : Int) < (n : Int)) = false := decide_eq_false (by omega)
  have g1 : decide (p < 0) = false := decide_eq_false (by omega)
  have g2 : decide (9223372036854775747 < p) = false := decide_eq_false (by omega)
  go_enter Try.func5, Try.ntmps5
  go_wp2_with fail
  refine (bytes_yes _ _ _ _ _ _ _ _ _ _ _ _ _ hn).mono ?_
  rintro e w' ⟨rfl, rfl⟩
  go_wp2_with fail
  refine (copy_u ai b off n cap t _ hn (unhide HH) (unhide HN)).mono ?_
  rintro e w1 ⟨⟨a', c', rfl, hT⟩, hbel⟩
  clear hil
  have HB1 := hide hbel
  have HT := hide hT
  clear hbel hT
  have HZ := hide (fun (x y : Int) (W : World) (hT : TextAt W a' w.heap.size 0 n c' t) => zzpay_u lk ip il po up x y a' w.heap.size 0 n c' t p proto W hp0 hp1 hn hT hpp hpm hf0 hf1)
  have HCS := hide (hdr_cases proto n t p (unhide HT).bytes)
  generalize hdr proto n t p = H at HZ HCS
  go_wp2_with fail
  refine Calls.mono (unhide HZ pl pn _ ((unhide HT).stays ((Below.refl _ _).alloc (Nat.le_refl _) _))) ?_
  obtain ⟨L, hL⟩ : ∃ L : Obj, L = (.cells #[.int .u32 lk, .int .i64 ip, .int .i64 il, .int .i64 po, .int .i64 up, .int .i64 pl, .int .i64 pn] 34) := ⟨_, rfl⟩
  rw [← hL]
  rintro e w2 ⟨rfl, hb2⟩
  have HT2 := hide (((unhide HT).stays ((Below.refl _ _).alloc (Nat.le_refl _) L)).stays hb2)
  have hl : w2.heap[w1.heap.size]? = some L := by rw [hb2.block _ (by simp)]; exact heap_alloc_new _ _
  have HB2 : Hid (Below w.heap.size w w2) := ((unhide HB1).alloc (unhide HB1).size _).trans (hb2.mono (by have := (unhide HB1).size; simp; omega))
  have hs2 : w1.heap.size < w2.heap.size := by have := hb2.size; simp at this; omega
  have HL := hide hl
  have HLL := hide hL
  clear hb2 hl hL HT HB1
  unfold lay
  generalize hx : (payF H p (ip + il) pl pn).1 = x
  generalize hy : (payF H p (ip + il) pl pn).2 = y
  have HX := hide hx
  have HY := hide hy
  clear hx hy
  go_wp2_with fail
  refine Calls.mono (unhide HZ x y _ ((unhide HT2).stays ((Below.refl _ _).alloc (Nat.le_refl _) _))) ?_
  have hid : payF H p (ip + il) x y = (x, y) := by
    have := payF_idem H p (ip + il) pl pn
    rw [unhide HX, unhide HY] at this
    rw [this, ← unhide HX, ← unhide HY]
  rw [hid]
  clear hid
  obtain ⟨O, hO⟩ : ∃ O : Obj, O = (.cells #[.int .u32 lk, .int .i64 ip, .int .i64 il, .int .i64 po, .int .i64 up, .int .i64 x, .int .i64 y] 34) := ⟨_, rfl⟩
  rw [← hO]
  rintro e w3 ⟨rfl, hb3⟩
  have ho : w3.heap[w2.heap.size]? = some O := by rw [hb3.block _ (by simp)]; exact heap_alloc_new _ _
  have hl : w3.heap[w1.heap.size]? = some L := by
    rw [hb3.block _ (by simp; omega), (((Below.refl w2.heap.size w2).alloc (Nat.le_refl _) O)).block _ hs2]
    exact unhide HL
  rw [hO] at ho
  rw [unhide HLL] at hl
  have ks := seven ho
  have kl := seven hl
  have HB3 : Hid (Below w.heap.size w w3) := ((unhide HB2).alloc (unhide HB2).size _).trans (hb3.mono (by have := (unhide HB2).size; simp; omega))
  have hs3 : w2.heap.size < w3.heap.size := by have := hb3.size; simp at this; omega
  clear ho hl hO hb3 HB2 HZ HT2 HLL HL
  generalize w2.heap.size = g2 at ks hs3 hs2 ⊢
  generalize w1.heap.size = g1' at kl hs2 ⊢
  obtain ⟨k0, k1, k2, k3, k4, k5, k6⟩ := ks
  obtain ⟨l0, l1, l2, l3, l4, l5, l6⟩ := kl
  unfold lay
  dsimp only
  have hs4 : g1' < w3.heap.size := by omega
  have hpc := payF_cases H p (ip + il) pl pn x y (unhide HCS) (unhide HX) (unhide HY)
  clear HX HY HCS
  rcases hpc with ⟨rfl, rfl⟩ | ⟨y1, y2, y3, y4⟩
  · go_wp2_with fail
    go_ret
    exact ⟨rfl, (unhide HB3).alloc (unhide HB3).size _⟩
  · have d2 : (x + y != ip + il) = false := by simp [y2]
    by_cases e1 : x = pl
    · subst e1
      by_cases e2 : y = pn
      · subst e2
        go_wp2_with fail
        go_ret
        exact ⟨rfl, (unhide HB3).alloc (unhide HB3).size _⟩
      · go_wp2_with fail
        go_ret
        exact ⟨rfl, (unhide HB3).alloc (unhide HB3).size _⟩
    · go_wp2_with fail
      go_ret
      exact ⟨rfl, (unhide HB3).alloc (unhide HB3).size _⟩

end Go.Proofs.Qxb6602079a.fnWithPayloadIdempotentWithinPacket
