import Derived.Test.Qxb6602079aLeaf
import Derived.RegionTactic
import Derived.ChangeAlike
import Derived.Deep.QuietTactic
import Derived.BigQuiet
import Derived.Lib.MinMax
namespace Go.Proofs.Qxb6602079a
open Go.ChangeShapes Go.WideShapes Go.ChangeAt Go.RowKit
set_option linter.unusedVariables false

def lay (lk ip il po up pl pn : Int) : Value := .agg #[.int .u32 lk, .int .i64 ip, .int .i64 il, .int .i64 po, .int .i64 up, .int .i64 pl, .int .i64 pn]

theorem thl_cases (proto : Int) (n : Nat) (t : Nat → Int) (ht : 0 ≤ t 12 ∧ t 12 ≤ 255) : (∃ v, thl proto n t = (v, true) ∧ 8 ≤ v ∧ v ≤ 60) ∨ (∃ v, thl proto n t = (v, false)) := by
  unfold thl
  by_cases h1 : proto = 17
  · exact .inl ⟨8, by rw [if_pos h1], by omega, by omega⟩
  · rw [if_neg h1]
    by_cases h2 : proto = 6 ∧ 13 ≤ n
    · rw [if_pos h2]
      by_cases h3 : 20 ≤ t 12 / 16 * 4
      · exact .inl ⟨_, by rw [decide_eq_true h3], by omega, by omega⟩
      · exact .inr ⟨_, by rw [decide_eq_false h3]⟩
    · rw [if_neg h2]
      exact .inr ⟨0, rfl⟩

/-- The payload's place and length behind withPayload. -/
def payF (H : Int × Bool) (p fin pl pn : Int) : Int × Int := if H.2 = true ∧ p + H.1 < fin then (p + H.1, fin - (p + H.1)) else (pl, pn)

theorem cell_stays {w w' : World} {B : Nat} (hb : Below B w w') (hB : w.heap.size ≤ B) {a : Addr} {v : Value} (h : w.cell? a = some v) : w'.cell? a = some v :=
  (hb.cell (Nat.lt_of_lt_of_le (World.block_lt_of_cell? w a h) hB)).trans h

theorem TextAt.shift {w w' : World} {ai : Option Addr} {b off n cap : Nat} {t : Nat → Int} (h : TextAt w ai b off n cap t) (hb : Below w.heap.size w w') {q : Nat} (hq : q ≤ n) : TextAt w' (some ⟨b, off + q, none⟩) b (off + q) (n - q) (cap - q) (fun i => t (q + i)) :=
  ⟨by have := h.cap1; omega, by have := h.cap2; omega, fun _ => rfl, fun i hi => by rw [Nat.add_assoc]; exact cell_stays hb (Nat.le_refl _) (h.cells (q + i) (by omega)), fun i => h.bytes _⟩

theorem two_below (w : World) (o1 o2 : Obj) : Below w.heap.size w ((w.alloc o1).alloc o2) := ((Below.refl _ _).alloc (Nat.le_refl _) _).alloc (by simp) _

set_option maxRecDepth 100000 in
set_option maxHeartbeats 2000000 in
theorem pay_in (lk ip il po up pl pn : Int) (ai : Option Addr) (b off n cap : Nat) (t : Nat → Int) (p proto : Int) (w : World) (hp0 : 0 ≤ proto) (hp1 : proto ≤ 255) (hn : n ≤ 1048576) (h : TextAt w ai b off n cap t)
    (hpp : 0 ≤ p) (hpn : p < n) (hf0 : -9223372036854775808 ≤ ip + il) (hf1 : ip + il ≤ 9223372036854775807) :
    Calls Try.prog 14 #[lay lk ip il po up pl pn, .slice ai n cap, .int .i64 p, .int .u8 proto] w fun e w' =>
      e = .returned (lay lk ip il po up (payF (thl proto (n - p.toNat) (fun i => t (p.toNat + i))) p (ip + il) pl pn).1 (payF (thl proto (n - p.toNat) (fun i => t (p.toNat + i))) p (ip + il) pl pn).2) ∧ Below w.heap.size w w' := by
  unfold lay
  obtain ⟨q, rfl⟩ := Int.eq_ofNat_of_zero_le hpp
  rw [Int.toNat_natCast]
  have ha := h.at0 (by omega)
  have hc1 := h.cap1
  have hc2 := h.cap2
  have HBy := h.bytes
  have HH := hide h
  clear h
  subst ha
  have HBy' : ∀ i, 0 ≤ t (q + i) ∧ t (q + i) ≤ 255 := fun i => HBy _
  have HB2 := hide HBy'
  clear HBy HBy'
  have hmin : min (q : Int) (n : Int) = (q : Int) := by omega
  have HR0 := hide (thl_cases proto (n - q) (fun i => t (q + i)) (unhide HB2 12))
  generalize hRR : thl proto (n - q) (fun i => t (q + i)) = R at HR0 ⊢
  have HRR := hide hRR
  clear hRR
  go_enter Try.func14, Try.ntmps14
  go_wp2_with fail
  refine (thl_any proto _ b (off + q) (n - q) (cap - q) (fun i => t (q + i)) _ hp0 hp1 (by omega) ((unhide HH).shift (two_below _ _ _) (by omega))).mono ?_
  rintro e w1 ⟨rfl, rfl⟩
  rw [unhide HRR]

  rcases unhide HR0 with ⟨v, rfl, hv1, hv2⟩ | ⟨v, rfl⟩
  · skip
    by_cases hs : (q : Int) + v < ip + il
    · have e : payF (v, true) (q : Int) (ip + il) pl pn = ((q : Int) + v, ip + il - ((q : Int) + v)) := by unfold payF; rw [if_pos ⟨rfl, hs⟩]
      have HE := hide e
      clear e
      go_wp2
      go_quiet (fail)
      go_wp2
      refine bodyPost_ret (v := .agg #[.int .u32 lk, .int .i64 ip, .int .i64 il, .int .i64 po, .int .i64 up, .int .i64 ((q : Int) + v), .int .i64 (ip + il - ((q : Int) + v))]) (by simp [results, Try.results14, go_sem]) rfl ⟨by rw [unhide HE], ?_⟩
      iterate 9 (refine Below.setCell ?_ (by simp) _)
      exact below_drewN (two_below _ _ _) _
    · have e : payF (v, true) (q : Int) (ip + il) pl pn = (pl, pn) := by unfold payF; rw [if_neg (fun hc => hs hc.2)]
      have HE := hide e
      clear e
      go_wp2
      go_quiet (fail)
      go_wp2
      refine bodyPost_ret (v := .agg #[.int .u32 lk, .int .i64 ip, .int .i64 il, .int .i64 po, .int .i64 up, .int .i64 pl, .int .i64 pn]) (by simp [results, Try.results14, go_sem]) rfl ⟨by rw [unhide HE], ?_⟩
      iterate 7 (refine Below.setCell ?_ (by simp) _)
      exact below_drewN (two_below _ _ _) _
  · have e : payF (v, false) (q : Int) (ip + il) pl pn = (pl, pn) := by unfold payF; rw [if_neg (fun hc => by cases hc.1)]
    have HE := hide e
    clear e
    go_wp2
    refine bodyPost_ret (v := .agg #[.int .u32 lk, .int .i64 ip, .int .i64 il, .int .i64 po, .int .i64 up, .int .i64 pl, .int .i64 pn]) (by simp [results, Try.results14, go_sem]) rfl ⟨by rw [unhide HE], ?_⟩
    exact two_below _ _ _
theorem thl_zero (proto : Int) (a : Option Addr) (c : Nat) (w : World) (hp0 : 0 ≤ proto) (hp1 : proto ≤ 255) :
    Calls Try.prog 8 #[.int .u8 proto, .slice a 0 c] w fun e w' => e = .returned (.tuple #[.int .i64 (thl proto 0 (fun _ => 0)).1, .bool (thl proto 0 (fun _ => 0)).2]) ∧ w = w' := by
  unfold thl
  by_cases h1 : proto = 17
  · subst h1
    rw [if_pos rfl]
    go_enter Try.func8, Try.ntmps8
    go_wp2
    go_ret2
    exact ⟨rfl, rfl⟩
  · rw [if_neg h1, if_neg (by omega)]
    have g1 : (proto == 17) = false := by simp [h1]
    by_cases h2 : proto = 6
    · subst h2
      go_enter Try.func8, Try.ntmps8
      go_wp2
      go_ret2
      exact ⟨rfl, rfl⟩
    · have g2 : (proto == 6) = false := by simp [h2]
      go_enter Try.func8, Try.ntmps8
      go_wp2
      go_ret2
      exact ⟨rfl, rfl⟩

set_option maxRecDepth 100000 in
set_option maxHeartbeats 2000000 in
theorem pay_out (lk ip il po up pl pn : Int) (ai : Option Addr) (b off n cap : Nat) (t : Nat → Int) (p proto : Int) (w : World) (hp0 : 0 ≤ proto) (hp1 : proto ≤ 255) (hn : n ≤ 1048576) (h : TextAt w ai b off n cap t)
    (hpp : 0 ≤ p) (hpm : p ≤ 9223372036854775747) (hpn : n ≤ p) (hf0 : -9223372036854775808 ≤ ip + il) (hf1 : ip + il ≤ 9223372036854775807) :
    Calls Try.prog 14 #[lay lk ip il po up pl pn, .slice ai n cap, .int .i64 p, .int .u8 proto] w fun e w' =>
      e = .returned (lay lk ip il po up (payF (thl proto 0 (fun _ => 0)) p (ip + il) pl pn).1 (payF (thl proto 0 (fun _ => 0)) p (ip + il) pl pn).2) ∧ Below w.heap.size w w' := by
  unfold lay
  have hc1 := h.cap1
  have hc2 := h.cap2
  have HH := hide h
  clear h
  have hmin : min p (n : Int) = (n : Int) := by omega
  have HR0 := hide (thl_cases proto 0 (fun _ => 0) (by omega))
  generalize hRR : thl proto 0 (fun _ => 0) = R at HR0 ⊢
  have HRR := hide hRR
  clear hRR
  by_cases h0 : n = 0
  · subst h0
    go_enter Try.func14, Try.ntmps14
    go_wp2_with fail
    all_goals
      refine (thl_zero proto _ _ _ hp0 hp1).mono ?_
      rintro e w1 ⟨rfl, rfl⟩
      rw [unhide HRR]
      rcases unhide HR0 with ⟨v, rfl, hv1, hv2⟩ | ⟨v, rfl⟩
      · skip
        by_cases hs : p + v < ip + il
        · have e : payF (v, true) p (ip + il) pl pn = (p + v, ip + il - (p + v)) := by unfold payF; rw [if_pos ⟨rfl, hs⟩]
          have HE := hide e
          clear e
          go_wp2
          go_quiet (fail)
          go_wp2
          refine bodyPost_ret (v := .agg #[.int .u32 lk, .int .i64 ip, .int .i64 il, .int .i64 po, .int .i64 up, .int .i64 (p + v), .int .i64 (ip + il - (p + v))]) (by simp [results, Try.results14, go_sem]) rfl ⟨by rw [unhide HE], ?_⟩
          iterate 9 (refine Below.setCell ?_ (by simp) _)
          exact below_drewN (two_below _ _ _) _
        · have e : payF (v, true) p (ip + il) pl pn = (pl, pn) := by unfold payF; rw [if_neg (fun hc => hs hc.2)]
          have HE := hide e
          clear e
          go_wp2
          go_quiet (fail)
          go_wp2
          refine bodyPost_ret (v := .agg #[.int .u32 lk, .int .i64 ip, .int .i64 il, .int .i64 po, .int .i64 up, .int .i64 pl, .int .i64 pn]) (by simp [results, Try.results14, go_sem]) rfl ⟨by rw [unhide HE], ?_⟩
          iterate 7 (refine Below.setCell ?_ (by simp) _)
          exact below_drewN (two_below _ _ _) _
      · have e : payF (v, false) p (ip + il) pl pn = (pl, pn) := by unfold payF; rw [if_neg (fun hc => by cases hc.1)]
        have HE := hide e
        clear e
        go_wp2
        refine bodyPost_ret (v := .agg #[.int .u32 lk, .int .i64 ip, .int .i64 il, .int .i64 po, .int .i64 up, .int .i64 pl, .int .i64 pn]) (by simp [results, Try.results14, go_sem]) rfl ⟨by rw [unhide HE], ?_⟩
        exact two_below _ _ _
  · have ha := (unhide HH).at0 (by omega)
    subst ha
    go_enter Try.func14, Try.ntmps14
    go_wp2_with fail
    all_goals
      refine (thl_zero proto _ _ _ hp0 hp1).mono ?_
      rintro e w1 ⟨rfl, rfl⟩
      rw [unhide HRR]
      rcases unhide HR0 with ⟨v, rfl, hv1, hv2⟩ | ⟨v, rfl⟩
      · skip
        by_cases hs : p + v < ip + il
        · have e : payF (v, true) p (ip + il) pl pn = (p + v, ip + il - (p + v)) := by unfold payF; rw [if_pos ⟨rfl, hs⟩]
          have HE := hide e
          clear e
          go_wp2
          go_quiet (fail)
          go_wp2
          refine bodyPost_ret (v := .agg #[.int .u32 lk, .int .i64 ip, .int .i64 il, .int .i64 po, .int .i64 up, .int .i64 (p + v), .int .i64 (ip + il - (p + v))]) (by simp [results, Try.results14, go_sem]) rfl ⟨by rw [unhide HE], ?_⟩
          iterate 9 (refine Below.setCell ?_ (by simp) _)
          exact below_drewN (two_below _ _ _) _
        · have e : payF (v, true) p (ip + il) pl pn = (pl, pn) := by unfold payF; rw [if_neg (fun hc => hs hc.2)]
          have HE := hide e
          clear e
          go_wp2
          go_quiet (fail)
          go_wp2
          refine bodyPost_ret (v := .agg #[.int .u32 lk, .int .i64 ip, .int .i64 il, .int .i64 po, .int .i64 up, .int .i64 pl, .int .i64 pn]) (by simp [results, Try.results14, go_sem]) rfl ⟨by rw [unhide HE], ?_⟩
          iterate 7 (refine Below.setCell ?_ (by simp) _)
          exact below_drewN (two_below _ _ _) _
      · have e : payF (v, false) p (ip + il) pl pn = (pl, pn) := by unfold payF; rw [if_neg (fun hc => by cases hc.1)]
        have HE := hide e
        clear e
        go_wp2
        refine bodyPost_ret (v := .agg #[.int .u32 lk, .int .i64 ip, .int .i64 il, .int .i64 po, .int .i64 up, .int .i64 pl, .int .i64 pn]) (by simp [results, Try.results14, go_sem]) rfl ⟨by rw [unhide HE], ?_⟩
        exact two_below _ _ _
end Go.Proofs.Qxb6602079a
