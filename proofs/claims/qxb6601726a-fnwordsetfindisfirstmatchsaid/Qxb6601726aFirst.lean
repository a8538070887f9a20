import Derived.Test.Qxb6601726aCase
import Derived.Test.Qxb6601726aPlainF
namespace Go.Proofs.Qxb6601726a
open Go.ChangeShapes Go.WideShapes Go.ChangeAt Go.RowKit
set_option linter.unusedVariables false

theorem or_eq' : ∀ X : Nat, X < 256 → ∀ Y : Nat, Y < 26 → ((X ||| 32 = Y + 97) ↔ (X = Y + 97 ∨ X = Y + 65)) := by decide +kernel
theorem or_eq (X : Nat) (hX : X < 256) (V : Nat) (h : V < 256) (h1 : 97 ≤ V) (h2 : V ≤ 122) : ((X ||| 32 = V) ↔ (X = V ∨ X = V - 32)) := by
  have h3 := or_eq' X hX (V - 97) (by omega)
  rw [show V - 97 + 97 = V by omega, show V - 97 + 65 = V - 32 by omega] at h3
  exact h3

theorem mt_plain {c v : Int} (hc : 0 ≤ c ∧ c ≤ 255) (hv : 0 ≤ v ∧ v ≤ 255) : mt c v = ((c == v) || (decide (97 ≤ v) && decide (v ≤ 122) && (c == v - 32))) := by
  rw [mt_or hc, Bool.eq_iff_iff]
  simp
  by_cases h : 97 ≤ v ∧ v ≤ 122
  · have h1 := or_eq c.toNat (by omega) v.toNat (by omega) (by omega) (by omega)
    constructor
    · rintro (h2 | ⟨h2, h3⟩)
      · exact .inl h2
      · have : c.toNat ||| 32 = v.toNat := by omega
        rcases h1.1 this with h4 | h4
        · exact .inl (by omega)
        · exact .inr ⟨⟨h.1, h.2⟩, by omega⟩
    · rintro (h2 | ⟨h2, h3⟩)
      · exact .inl h2
      · refine .inr ⟨?_, h.1, h.2⟩
        have := h1.2 (.inr (by omega))
        omega
  · constructor
    · rintro (h2 | ⟨h2, h3, h4⟩)
      · exact .inl h2
      · exact absurd ⟨h3, h4⟩ h
    · rintro (h2 | ⟨h2, h3⟩)
      · exact .inl h2
      · exact absurd ⟨h2.1, h2.2⟩ h

theorem byteMatches_u (c v : Int) (w : World) (c0 : 0 ≤ c) (c1 : c ≤ 255) (v0 : 0 ≤ v) (v1 : v ≤ 255) :
    Calls Try.prog 33 #[.int .u8 c, .int .u8 v] w fun e w' => e = .returned (.bool (mt c v)) ∧ w' = w := by
  rw [mt_plain ⟨c0, c1⟩ ⟨v0, v1⟩]
  by_cases h1 : c = v
  · subst h1
    have e : ((c == c) || (decide (97 ≤ c) && decide (c ≤ 122) && (c == c - 32))) = true := by simp
    rw [e]
    have q : (c == c) = true := by simp
    clear e
    go_enter Try.func33, Try.ntmps33
    go_wp2
    go_ret
    exact ⟨rfl, rfl⟩
  · have q : (c == v) = false := by simp [h1]
    rw [q, Bool.false_or]
    by_cases h2 : 97 ≤ v
    · by_cases h3 : v ≤ 122
      · have e : (decide (97 ≤ v) && decide (v ≤ 122) && (c == v - 32)) = (c == v - 32) := by simp [h2, h3]
        rw [e]
        clear e
        go_enter Try.func33, Try.ntmps33
        go_wp2
        go_ret
        exact ⟨rfl, rfl⟩
      · have e : (decide (97 ≤ v) && decide (v ≤ 122) && (c == v - 32)) = false := by simp [h3]
        rw [e]
        clear e
        go_enter Try.func33, Try.ntmps33
        go_wp2
        go_ret
        exact ⟨rfl, rfl⟩
    · have e : (decide (97 ≤ v) && decide (v ≤ 122) && (c == v - 32)) = false := by simp [h2]
      rw [e]
      clear e
      go_enter Try.func33, Try.ntmps33
      go_wp2
      go_ret
      exact ⟨rfl, rfl⟩

theorem byteM_s (s : ByteArray) (k : Nat) (h : k < s.size) (x : Int) (w : World) (x0 : 0 ≤ x) (x1 : x ≤ 255) :
    Calls Try.prog 33 #[.int .u8 x, .int .u8 ((s[k]'h).toNat : Int)] w fun e w' => e = .returned (.bool (mt x (bt s k))) ∧ ∃ nq, w' = w.drewN nq := by
  rw [bt_get h]
  have := (s[k]'h).toNat_lt
  refine (byteMatches_u x _ w x0 x1 (by omega) (by omega)).mono ?_
  rintro e w' ⟨rfl, rfl⟩
  exact ⟨rfl, 0, rfl⟩

theorem ends_short {t wd : Nat → Int} {n m : Nat} (h : n < m) : ends t n wd m = false := by simp [ends]; omega

set_option maxHeartbeats 1000000 in
theorem endsAt_u (s : ByteArray) (ai : Option Addr) (b off n cap a : Nat) (t : Nat → Int) (w : World) (hs : s.size ≤ 64) (hn : n ≤ 65536) (ha : a < n) (h : TextAt w ai b off n cap t) :
    Calls Try.prog 30 #[.string s, .slice ai n cap, .int .i64 a] w fun e w' => e = .returned (.bool (ends t (a + 1) (bt s) s.size)) ∧ ∃ nq, w' = w.drewN nq := by
  have hai := h.at0 (by omega)
  have HH := hide h
  clear h
  subst hai
  have hnI : (n : Int) ≤ 65536 := by omega
  have haI : (a : Int) < (n : Int) := by omega
  have hsI : (s.size : Int) ≤ 64 := by omega
  have HN := hide hn
  have HSZ := hide hs
  clear hn hs
  by_cases hsh : a + 1 < s.size
  · rw [ends_short hsh]
    clear HH
    go_enter Try.func30, Try.ntmps30
    go_wp2
    go_ret
    exact ⟨rfl, 0, rfl⟩
  · obtain ⟨d, hd⟩ : ∃ d, a + 1 = d + s.size := ⟨a + 1 - s.size, by omega⟩
    rw [hd]
    have hst : (a : Int) + 1 - (s.size : Int) = (d : Int) := by omega
    have hda : d ≤ a + 1 := by omega
    have HD := hide hd
    clear hd hsh
    go_enter Try.func30, Try.ntmps30
    go_wp2
    rename_i hx1 hx2 hx3 hx4
    clear hx1
    go_loopw [8] (fun q wr => ∃ k : Nat, k ≤ s.size ∧ q = .int .i64 k ∧ Hid (∀ j, j < k → mt (t (d + j)) (bt s j) = true) ∧ Hid (∃ nq, wr = w.drewN nq))
      (fun q _ => s.size - (intOf q).toNat)
    case atStart => exact ⟨0, Nat.zero_le _, rfl, fun j hj => by omega, ⟨0, rfl⟩⟩
    case round =>
      obtain ⟨k, hk, rfl, HA, HW⟩ := hrel
      by_cases hlt : k < s.size
      · have hck : wr.cell? ⟨b, off + (d + k), none⟩ = some (.int .u8 (t (d + k))) := by
          obtain ⟨nq0, hw0⟩ := unhide HW
          subst hw0
          exact (unhide HH).cells (d + k) (by have := unhide HD; omega)
        have hbt := (unhide HH).bytes (d + k)
        have g1 : (0 : Int) ≤ (d : Int) + (k : Int) := by omega
        have g2 : (d : Int) + (k : Int) < (n : Int) := by have := unhide HD; omega
        have g3 : (k : Int) < (s.size : Int) := by omega
        have gw : IntKind.i64.wrap ((d : Int) + (k : Int)) = (d : Int) + (k : Int) := IntWalk.i64_in _ ⟨by omega, by omega⟩
        obtain ⟨E, hE⟩ : ∃ E, E = mt (t (d + k)) (bt s k) := ⟨_, rfl⟩
        have HC := hide (fun (W : World) => byteM_s s k hlt (t (d + k)) W hbt.1 hbt.2)
        rw [← hE] at HC
        clear hbt
        have HE := hide hE
        clear hE
        generalize hx : t (d + k) = x at hck HC
        have HX := hide hx
        clear hx
        rw [show d + k = ((d : Int) + (k : Int)).toNat by omega] at hck
        cases E
        · go_wp2
          go_quiet ((go_at_call 33; exact Calls.quiet_of (unhide HC _)))
          go_wp2
          go_ret
          refine ⟨ret_bool (ends_no hlt (unhide HE).symm).symm, ?_⟩
          obtain ⟨nq0, hw0⟩ := unhide HW
          exact ⟨nq0 + nq, by rw [hw0, World.drewN_drewN]⟩
        · go_wp2
          go_quiet ((go_at_call 33; exact Calls.quiet_of (unhide HC _)))
          go_wp2
          go_roundw
          case rel =>
            refine ⟨k + 1, by omega, by go_num, fun j hj => ?_, ?_⟩
            · rcases Nat.lt_or_ge j k with h1 | h1
              · exact HA.out j h1
              · obtain rfl : j = k := by omega
                exact (unhide HE).symm
            · obtain ⟨nq0, hw0⟩ := unhide HW
              exact ⟨nq0 + nq, by rw [hw0, World.drewN_drewN]⟩
          case measure => simp [intOf]; omega
      · go_wp2
        go_ret
        refine ⟨ret_bool (ends_yes fun j _ hj => HA.out j (by omega)).symm, unhide HW⟩

/-- zzFirstEnd's answer: the first index at which a word ends, or -1. -/
def PFirst (ss : Nat → ByteArray) (len : Nat) (t : Nat → Int) (n : Nat) (at0 : Int) (e : Ending) : Prop :=
  (e = .returned (.int .i64 (-1)) ∧ ∀ q : Nat, at0 ≤ q → q < n → ¬ EndsHere ss len t q) ∨
  ∃ q : Nat, e = .returned (.int .i64 q) ∧ at0 ≤ q ∧ q < n ∧ EndsHere ss len t q ∧ ∀ q' : Nat, at0 ≤ q' → q' < q → ¬ EndsHere ss len t q'

theorem TextAt.drew {w : World} {ai : Option Addr} {b off n cap : Nat} {t : Nat → Int} (h : TextAt w ai b off n cap t) (x : Nat) : TextAt (w.drewN x) ai b off n cap t :=
  ⟨h.cap1, h.cap2, h.at0, fun i hi => h.cells i hi, h.bytes⟩

theorem below_drew (w : World) (x : Nat) : Below w.heap.size w (w.drewN x) := below_drewN (Below.refl _ _) _

set_option maxRecDepth 100000 in
set_option maxHeartbeats 2000000 in
theorem firstEnd_u (ai : Option Addr) (b off len cap : Nat) (ss : Nat → ByteArray) (a1 : Option Addr) (b1 o1 n c1 : Nat) (t : Nat → Int) (at0 : Int) (w : World)
    (hlen : len ≤ 256) (hn : n ≤ 65536) (hW : WordsAt w ai b off len ss) (h1 : TextAt w a1 b1 o1 n c1 t) (hsz : ∀ i, i < len → (ss i).size ≤ 64) (hat : at0 ≤ 9223372036854775807) :
    Calls Try.prog 20 #[.slice ai len cap, .slice a1 n c1, .int .i64 at0] w fun e w' => PFirst ss len t n at0 e ∧ Below w.heap.size w w' := by
  have hnI : (n : Int) ≤ 65536 := by omega
  have HN := hide hn
  have HW := hide hW
  have H1 := hide h1
  have HSZ := hide hsz
  clear hW h1 hsz hn
  rcases Int.lt_or_le at0 0 with hs1 | hs1
  all_goals
    go_enter Try.func20, Try.ntmps20
    go_wp2
    go_loopw [7] (fun v wr => ∃ a : Int, v = .int .i64 a ∧ 0 ≤ a ∧ a ≤ 9223372036854775807 ∧ Hid (at0 ≤ a ∧ ∀ q : Nat, at0 ≤ q → (q : Int) < a → q < n → ¬ EndsHere ss len t q) ∧ Hid (∃ nq, wr = w.drewN nq))
      (fun v _ => ((n : Int) - intOf v).toNat)
    case atStart => exact ⟨_, rfl, by omega, by omega, ⟨by omega, fun q h1 h2 => by omega⟩, ⟨0, rfl⟩⟩
    case round =>
      rename World => wo
      obtain ⟨a, rfl, ha0, ha1, HA, HWO⟩ := hrel
      by_cases hlt : a < n
      · obtain ⟨k, rfl⟩ : ∃ k : Nat, a = (k : Int) := ⟨a.toNat, by omega⟩
        have hkn : (k : Int) < (n : Int) := hlt
        clear ha0 ha1 hlt
        go_wp2
        go_loopw [8] (fun v wr => ∃ j : Nat, j ≤ len ∧ v = .int .i64 j ∧ Hid (∀ i, i < j → ¬ ends t (k + 1) (bt (ss i)) (ss i).size = true) ∧ Hid (∃ nq, wr = w.drewN nq))
          (fun v _ => len - (intOf v).toNat)
        case atStart => exact ⟨0, Nat.zero_le _, rfl, fun i hi => by omega, unhide HWO⟩
        case round =>
          obtain ⟨j, hj, rfl, HJ, HWR⟩ := hrel
          by_cases hjl : j < len
          · have hai := (unhide HW).at0 (by omega)
            have hck : wr.cell? ⟨b, off + j, none⟩ = some (.string (ss j)) := by
              obtain ⟨nq0, hw0⟩ := unhide HWR
              subst hw0
              exact (unhide HW).cells j hjl
            have HC := hide (endsAt_u (ss j) a1 b1 o1 n c1 k t wr (unhide HSZ j hjl) (unhide HN) (by omega) (by
              obtain ⟨nq0, hw0⟩ := unhide HWR
              subst hw0
              exact (unhide H1).drew _))
            obtain ⟨E, hE⟩ : ∃ E, E = ends t (k + 1) (bt (ss j)) (ss j).size := ⟨_, rfl⟩
            rw [← hE] at HC
            have HE := hide hE
            clear hE
            generalize ss j = sj at hck HC
            subst hai
            cases E
            · go_wp2_with fail
              refine Calls.mono (unhide HC) ?_
              rintro e w2 ⟨rfl, nq, rfl⟩
              go_wp2
              go_roundw
              case rel =>
                refine ⟨j + 1, by omega, by go_num, fun i hi => ?_, ?_⟩
                · rcases Nat.lt_or_ge i j with h1 | h1
                  · exact HJ.out i h1
                  · obtain rfl : i = j := by omega
                    rw [← unhide HE]
                    simp
                · obtain ⟨nq0, hw0⟩ := unhide HWR
                  exact ⟨nq0 + nq, by rw [hw0, World.drewN_drewN]⟩
              case measure => simp [intOf]; omega
            · go_wp2_with fail
              refine Calls.mono (unhide HC) ?_
              rintro e w2 ⟨rfl, nq, rfl⟩
              go_wp2
              go_ret
              refine ⟨.inr ⟨k, rfl, HA.out.1, by omega, ⟨j, hjl, (unhide HE).symm⟩, fun q' h2 h3 => HA.out.2 q' h2 (by omega) (by omega)⟩, ?_⟩
              obtain ⟨nq0, hw0⟩ := unhide HWR
              rw [hw0, World.drewN_drewN]
              exact below_drew _ _
          · go_wp2
            go_roundw
            case rel =>
              refine ⟨_, rfl, by omega, by omega, ⟨by have := HA.out.1; omega, fun q h2 h3 h4 => ?_⟩, unhide HWR⟩
              by_cases e : q = k
              · subst e
                rintro ⟨i, hi, h5⟩
                exact HJ.out i (by omega) h5
              · exact HA.out.2 q h2 (by omega) h4
            case measure => simp [intOf]; omega
      · go_wp2
        go_ret
        refine ⟨.inl ⟨rfl, fun q h2 h3 => HA.out.2 q h2 (by omega) h3⟩, ?_⟩
        obtain ⟨nq0, hw0⟩ := unhide HWO
        rw [hw0]
        exact below_drew _ _
end Go.Proofs.Qxb6601726a
