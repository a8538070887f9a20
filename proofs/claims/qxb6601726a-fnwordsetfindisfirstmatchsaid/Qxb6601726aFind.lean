import Derived.Test.Qxb6601726aPlain
namespace Go.Proofs.Qxb6601726a
open Go.ChangeShapes Go.WideShapes Go.ChangeAt Go.RowKit
set_option linter.unusedVariables false

/-- The set s lies in memory: its struct in block S, its table in block gs, its words in block gw, word j's bytes in block tb j. -/
structure Lies (w : World) (S gs gw cw : Nat) (ao : Option Addr) (tb cp : Nat → Nat) (sh lo : Int) (s : WS) : Prop where
  words : w.cell? ⟨S, 0, none⟩ = some (.slice ao s.m cw)
  short : w.cell? ⟨S, 1, none⟩ = some (.int .i64 sh)
  long : w.cell? ⟨S, 2, none⟩ = some (.int .i64 lo)
  skip : w.cell? ⟨S, 3, none⟩ = some (.pointer (some ⟨gs, 0, none⟩))
  table : ∀ p, p < 65536 → w.cell? ⟨gs, p, none⟩ = some (.int .u8 (s.sk p))
  at0 : 0 < s.m → ao = some ⟨gw, 0, none⟩
  cap : s.m ≤ cw ∧ s.m ≤ 1048576
  text : ∀ j, j < s.m → w.cell? ⟨gw, j * 3, none⟩ = some (.slice (some ⟨tb j, 0, none⟩) (s.ln j) (cp j))
  last : ∀ j, j < s.m → w.cell? ⟨gw, j * 3 + 1, none⟩ = some (.int .u16 (s.la j))
  again : ∀ j, j < s.m → w.cell? ⟨gw, j * 3 + 2, none⟩ = some (.int .u8 (s.ag j))
  bytes : ∀ j k, j < s.m → k < s.ln j → w.cell? ⟨tb j, k, none⟩ = some (.int .u8 (s.tx j k))

theorem cell_stays {w w' : World} {B : Nat} (hb : Below B w w') (hB : w.heap.size ≤ B) {a : Addr} {v : Value} (h : w.cell? a = some v) : w'.cell? a = some v :=
  (hb.cell (Nat.lt_of_lt_of_le (World.block_lt_of_cell? w a h) hB)).trans h

theorem Lies.stays {w w' : World} {S gs gw cw : Nat} {ao : Option Addr} {tb cp : Nat → Nat} {sh lo : Int} {s : WS} (h : Lies w S gs gw cw ao tb cp sh lo s) (hb : Below w.heap.size w w') :
    Lies w' S gs gw cw ao tb cp sh lo s :=
  ⟨cell_stays hb (Nat.le_refl _) h.words, cell_stays hb (Nat.le_refl _) h.short, cell_stays hb (Nat.le_refl _) h.long, cell_stays hb (Nat.le_refl _) h.skip,
    fun p hp => cell_stays hb (Nat.le_refl _) (h.table p hp), h.at0, h.cap, fun j hj => cell_stays hb (Nat.le_refl _) (h.text j hj), fun j hj => cell_stays hb (Nat.le_refl _) (h.last j hj),
    fun j hj => cell_stays hb (Nat.le_refl _) (h.again j hj), fun j k hj hk => cell_stays hb (Nat.le_refl _) (h.bytes j k hj hk)⟩

set_option maxRecDepth 100000 in
set_option maxHeartbeats 1000000 in
theorem find_any (S gs gw cw : Nat) (ao : Option Addr) (tb cp : Nat → Nat) (sh lo : Int) (s : WS) (b off n cap : Nat) (t : Nat → Int) (at0 : Int) (w : World)
    (hS : Lies w S gs gw cw ao tb cp sh lo s) (g : s.Good) (hn : n ≤ 1048576) (hnc : n ≤ cap) (hcap : cap ≤ 9223372036854775807) 
    (ht : ∀ i, i < n → w.cell? ⟨b, off + i, none⟩ = some (.int .u8 (t i))) (t0 : ∀ i, 0 ≤ t i ∧ t i ≤ 255) (hat : at0 ≤ 9223372036854775807) :
    Calls Try.prog 29 #[.pointer (some ⟨S, 0, none⟩), .slice (some ⟨b, off, none⟩) n cap, .int .i64 at0] w fun e w' =>
      e = .returned (.tuple #[.bool (findR s n t at0).1, .int .i64 (findR s n t at0).2]) ∧ Below w.heap.size w w' := by
  have hmx : (at0 < 1 ∧ max at0 1 = 1) ∨ (1 ≤ at0 ∧ max at0 1 = at0) := by omega
  have HR : Hid (findF s n t n (max at0 1) = findR s n t at0) := rfl
  generalize findR s n t at0 = R at HR ⊢
  go_enter Try.func29, Try.ntmps29
  rcases hmx with ⟨h1, h2⟩ | ⟨h1, h2⟩
  all_goals
    rw [h2] at HR
    clear h2
    go_wp2
    go_loopw [2] (fun v wr => ∃ (a : Int) (f : Nat), v = .int .i64 a ∧ 1 ≤ a ∧ a ≤ 9223372036854775807 ∧ (n : Int) - a ≤ f ∧ Hid (findF s n t f a = R) ∧ Below w.heap.size w wr)
      (fun v _ => ((n : Int) - intOf v).toNat)
    case atStart => exact ⟨_, n, rfl, by omega, by omega, by omega, HR, Below.refl _ _⟩
    case round =>
      rename World => wo
      obtain ⟨a, f, rfl, ha1, ha2, hf, HF, hbel⟩ := hrel
      by_cases hlt : a < n
      · obtain ⟨k, rfl⟩ : ∃ k : Nat, a = (k : Int) + 1 := ⟨(a - 1).toNat, by omega⟩
        have hSo := hS.stays hbel
        have HT : Hid (∀ i, i < n → wo.cell? ⟨b, off + i, none⟩ = some (.int .u8 (t i))) := fun i hi => cell_stays hbel (Nat.le_refl _) (ht i hi)
        go_wp2_with fail
        refine (pairAt_any b off n cap _ k (t k) (t (k + 1)) _ rfl (by omega) hn (HT.out k (by omega)) (HT.out (k + 1) (by omega)) (t0 k).1 (t0 k).2 (t0 (k + 1)).1 (t0 (k + 1)).2).mono ?_
        rintro e w1 ⟨rfl, nq, rfl⟩
        obtain ⟨hp0, hp1⟩ := pr_bounds (t k) (t (k + 1)) (t0 k).1 (t0 k).2 (t0 (k + 1)).1 (t0 (k + 1)).2
        have ct := hSo.table (pr (t k) (t (k + 1))).toNat (by omega)
        have cs := hSo.skip
        have cw0 := hSo.words
        have hsk := g.sk0 (pr (t k) (t (k + 1))).toNat
        have hnx : nxt s t (k + 1) = if 0 < s.sk (pr (t k) (t (k + 1))).toNat then some (s.sk (pr (t k) (t (k + 1))).toNat)
            else if hitAny s t (k + 1) (pr (t k) (t (k + 1))) s.m then none else some (lastAg s (pr (t k) (t (k + 1))) s.m) := rfl
        have HN := hide hnx
        clear hnx
        generalize hpp : pr (t k) (t (k + 1)) = p at *
        have HP := hide hpp
        clear hpp
        generalize hvv : s.sk p.toNat = v at *
        clear hvv
        obtain ⟨hv0, hv1⟩ := hsk
        by_cases hv : 0 < v
        · obtain ⟨f', hf', hF'⟩ := findF_some (d := v) (by omega) (by omega) hf (by rw [unhide HN, if_pos hv]) HF.out
          have HF' := hide hF'
          clear hF'
          go_wp2
          go_roundw
          case rel => exact ⟨_, f', rfl, by omega, by omega, hf', HF', below_drewN hbel _⟩
          case measure => simp [intOf]; omega
        · obtain rfl : v = 0 := by omega
          clear hv hv0 hv1
          go_wp2
          go_loopw [10, 41] (fun u q wr => ∃ j : Nat, j ≤ s.m ∧ q = .int .i64 j ∧ u = .int .u8 (lastAg s p j) ∧ Hid (hitAny s t (k + 1) p j = false) ∧ Below wo.heap.size wo wr)
            (fun _ q _ => s.m - (intOf q).toNat)
          case atStart => exact ⟨0, Nat.zero_le _, rfl, rfl, rfl, below_drewN (Below.refl _ _) _⟩
          case round =>
            obtain ⟨j, hj, rfl, rfl, HH, hbelo⟩ := hrel
            have hSr := hSo.stays hbelo
            obtain ⟨hcap1, hcap2⟩ := hS.cap
            by_cases hjm : j < s.m
            · have hao := hS.at0 (by omega)
              have c0 := hSr.text j hjm
              have c1 := hSr.last j hjm
              have c2 := hSr.again j hjm
              obtain ⟨hln0, hln1⟩ := g.ln0 j hjm
              obtain ⟨hag0, hag1⟩ := g.ag0 j
              subst hao
              by_cases hlp : s.la j = p
              · have hne : (s.la j != p) = false := by simp [hlp]
                have HLP := hide hlp
                clear hlp
                have HT1 : Hid (∀ i, i < n → wr.cell? ⟨b, off + i, none⟩ = some (.int .u8 (t i))) := fun i hi => cell_stays hbelo (Nat.le_refl _) (HT.out i hi)
                have HB1 : Hid (∀ i, i < s.ln j → wr.cell? ⟨tb j, 0 + i, none⟩ = some (.int .u8 (s.tx j i))) := fun i hi => by rw [Nat.zero_add]; exact hSr.bytes j i hjm hi
                have hk2 : (k : Int) + 1 + 1 ≤ (n : Int) := by omega
                go_wp2
                obtain ⟨E, hE⟩ : ∃ E, E = ends t (k + 1 + 1) (s.tx j) (s.ln j) := ⟨_, rfl⟩
                have HC := hide (fun (O : Obj) (x : Nat) => endsWith_any b off (k + 1 + 1) cap (tb j) 0 (s.ln j) (cp j) t (s.tx j) ((wr.alloc O).drewN x) (by omega) (by omega) hcap hln1 (by omega) (fun i hi => cell_stays (below_drewN ((Below.refl wr.heap.size wr).alloc (Nat.le_refl _) _) _) (Nat.le_refl _) (HT1.out i (by omega))) (fun i hi => cell_stays (below_drewN ((Below.refl wr.heap.size wr).alloc (Nat.le_refl _) _) _) (Nat.le_refl _) (HB1.out i hi)) t0 (g.tx0 j))
                rw [← hE] at HC
                have HE := hide hE
                clear hE
                cases E
                · go_quiet ((go_at_call 32; exact Calls.quiet_of (unhide HC _ _)))
                  go_wp2
                  go_roundw
                  case rel => exact ⟨j + 1, by omega, by go_num, by rw [lastAg, if_pos (unhide HLP)], by show hitAny s t (k + 1) p (j + 1) = false; rw [hitAny_succ, HH.out, hit, ← unhide HE]; simp, below_drewN (hbelo.alloc hbelo.size _) _⟩
                  case measure => simp [intOf]; omega
                · have hR := findF_none (by omega) hf (by rw [unhide HN, if_neg (by omega), if_pos (hitAny_mono hjm (unhide HLP) (unhide HE).symm)]) HF.out
                  subst hR
                  go_quiet ((go_at_call 32; exact Calls.quiet_of (unhide HC _ _)))
                  go_wp2
                  go_ret2
                  exact ⟨rfl, below_drewN ((hbel.trans (hbelo.mono hbel.size)).alloc (by have := hbel.size; have := hbelo.size; omega) _) _⟩
              · have hne : (s.la j != p) = true := by simp [hlp]
                go_wp2
                go_roundw
                case rel => exact ⟨j + 1, by omega, by go_num, by rw [lastAg, if_neg hlp], by show hitAny s t (k + 1) p (j + 1) = false; rw [hitAny_succ, HH.out]; simp [hlp], hbelo.alloc hbelo.size _⟩
                case measure => simp [intOf]; omega
            · obtain rfl : j = s.m := by omega
              obtain ⟨hg1, hg2⟩ := lastAg_bounds g p s.m
              obtain ⟨f', hf', hF'⟩ := findF_some (d := lastAg s p s.m) (by omega) hg1 hf (by rw [unhide HN, if_neg (by omega), if_neg (by rw [HH.out]; simp)]) HF.out
              have HF' := hide hF'
              clear hF'
              go_wp2
              go_roundw
              case rel => exact ⟨_, f', rfl, by omega, by omega, hf', HF', hbel.trans (hbelo.mono hbel.size)⟩
              case measure => simp [intOf]; omega
      · have hR : R = (false, a) := by rw [← HF.out, findF_end hlt]
        subst hR
        go_wp2
        go_ret2
        exact ⟨rfl, hbel⟩

/-- An empty text. -/
theorem find_none (sp : Value) (ao : Option Addr) (cap : Nat) (at0 : Int) (s : WS) (t : Nat → Int) (w : World) :
    Calls Try.prog 29 #[sp, .slice ao 0 cap, .int .i64 at0] w fun e w' => e = .returned (.tuple #[.bool (findR s 0 t at0).1, .int .i64 (findR s 0 t at0).2]) ∧ Below w.heap.size w w' := by
  have hR : findR s 0 t at0 = (false, max at0 1) := rfl
  rw [hR]
  have hmx : (at0 < 1 ∧ max at0 1 = 1) ∨ (1 ≤ at0 ∧ max at0 1 = at0) := by omega
  rcases hmx with ⟨h1, h2⟩ | ⟨h1, h2⟩
  all_goals
    rw [h2]
    clear h2
    have h3 : ¬ (max at0 1) < 0 := by omega
    go_enter Try.func29, Try.ntmps29
    go_wp2
    refine wp_loop_rounds 1 ?_
    rw [rounds_succ]
    go_wp2
    go_ret2
    exact ⟨rfl, Below.refl _ _⟩

/-- ZZFind hands on. -/
theorem zzfind_of {sp tx : Value} {at0 : Int} {w : World} {r : Bool} {i : Int} (h : Calls Try.prog 29 #[sp, tx, .int .i64 at0] w fun e w' => e = .returned (.tuple #[.bool r, .int .i64 i]) ∧ Below w.heap.size w w') :
    Calls Try.prog 19 #[sp, tx, .int .i64 at0] w fun e w' => e = .returned (.tuple #[.bool r, .int .i64 i]) ∧ Below w.heap.size w w' := by
  have H := hide h
  clear h
  go_enter Try.func19, Try.ntmps19
  go_wp2_with fail
  refine (unhide H).mono ?_
  rintro e w1 ⟨rfl, hbel⟩
  go_wp2
  go_ret2
  exact ⟨rfl, hbel⟩
end Go.Proofs.Qxb6601726a
