import Derived.Test.Qxb6601726aZzb
import Derived.Test.Qxb6601726aPlainC
namespace Go.Proofs.Qxb6601726a
open Go.ChangeShapes Go.WideShapes Go.ChangeAt Go.RowKit
set_option linter.unusedVariables false

def PUp (ss : Nat → ByteArray) (len : Nat) (e : Ending) : Prop := ∃ r : Bool, (r = false → ∀ i, i < len → ∀ k, k < (ss i).size → ¬ (65 ≤ bt (ss i) k ∧ bt (ss i) k ≤ 90)) ∧ e = .returned (.bool r)

theorem bt_get {s : ByteArray} {k : Nat} (h : k < s.size) : bt s k = ((s[k]'h).toNat : Int) := by
  unfold bt
  have e : s.data[k]?.getD 0 = s.data[k]'h := by rw [Array.getElem?_eq_getElem h]; rfl
  rw [e]; rfl

set_option maxHeartbeats 1000000 in
theorem hasUpper_u (ai : Option Addr) (b off len cap : Nat) (ss : Nat → ByteArray) (w : World) (hlen : len ≤ 256) (h : WordsAt w ai b off len ss) (hsz : ∀ i, i < len → (ss i).size ≤ 64) :
    Calls Try.prog 25 #[.slice ai len cap] w fun e w' => PUp ss len e ∧ w = w' := by
  have HH := hide h
  have HSZ := hide hsz
  clear h hsz
  go_enter Try.func25, Try.ntmps25
  go_wp2
  go_loop [3] (fun i => ∃ (k : Nat), k ≤ len ∧ i = .int .i64 k ∧ Hid (∀ j, j < k → ∀ q, q < (ss j).size → ¬ (65 ≤ bt (ss j) q ∧ bt (ss j) q ≤ 90))) (fun i => len - (intOf i).toNat)
  case atStart => exact ⟨0, Nat.zero_le _, rfl, fun j hj => by omega⟩
  case round =>
    obtain ⟨k, hk, rfl, HA⟩ := hrel
    by_cases hlt : k < len
    · have hck := (unhide HH).cells k hlt
      have hai := (unhide HH).at0 (by omega)
      have hs64 := unhide HSZ k hlt
      obtain ⟨s, hs⟩ : ∃ s, s = ss k := ⟨_, rfl⟩
      rw [← hs] at hck hs64
      have HS := hide hs
      clear hs HH
      subst hai
      go_wp2
      go_loop [5] (fun i => ∃ (q : Nat), q ≤ s.size ∧ i = .int .i64 q ∧ Hid (∀ j, j < q → ¬ (65 ≤ bt s j ∧ bt s j ≤ 90))) (fun i => s.size - (intOf i).toNat)
      case atStart => exact ⟨0, Nat.zero_le _, rfl, fun j hj => by omega⟩
      case round =>
        obtain ⟨q, hq, rfl, HQ⟩ := hrel
        by_cases hql : q < s.size
        · go_wp2
          · go_ret
            exact ⟨⟨true, by simp, rfl⟩, rfl⟩
          all_goals
            go_round
            case rel =>
              refine ⟨q + 1, by omega, by go_num, fun j hj => ?_⟩
              by_cases e : j = q
              · subst e
                rw [bt_get hql]
                omega
              · exact HQ.out j (by omega)
            case measure => simp [intOf]; omega
        · go_wp2
          go_round
          case rel =>
            refine ⟨k + 1, by omega, by go_num, fun j hj => ?_⟩
            by_cases e : j = k
            · subst e
              rw [← unhide HS]
              exact fun r hr => HQ.out r (by omega)
            · exact HA.out j (by omega)
          case measure => simp [intOf]; omega
    · clear HH
      go_wp2
      go_ret
      exact ⟨⟨false, fun _ i hi => HA.out i (by omega), rfl⟩, rfl⟩

theorem brow_put {w wr : World} {n k : Nat} {f g : Nat → Int} {u : Int} (hbel : Below w.heap.size w wr) (hrow : Row wr w.heap.size 5 n (fun i => .int .u8 (f i))) (hg : ∀ i, i < n → (if i = k then u else f i) = g i) :
    Below w.heap.size w (wr.setCell ⟨w.heap.size, k, none⟩ (.int .u8 u)) ∧ Row (wr.setCell ⟨w.heap.size, k, none⟩ (.int .u8 u)) w.heap.size 5 n (fun i => .int .u8 (g i)) := by
  refine ⟨hbel.setCell (Nat.le_refl _) _, (hrow.set k _).cong fun i hi => ?_⟩
  rw [← hg i hi]
  by_cases h : i = k <;> simp [h]

set_option maxHeartbeats 1000000 in
theorem swapCase_u (ai : Option Addr) (b off n cap : Nat) (t : Nat → Int) (w : World) (hn : n ≤ 65536) (h : TextAt w ai b off n cap t) :
    Calls Try.prog 26 #[.slice ai n cap] w fun e w' => e = .returned (.slice (some ⟨w.heap.size, 0, none⟩) n n) ∧ Below w.heap.size w w' ∧ TextAt w' (some ⟨w.heap.size, 0, none⟩) w.heap.size 0 n n (fun i => swapC (t i)) := by
  obtain ⟨i0, hi, hz0, hz1, hz2⟩ := info_parts Try.info5
  have HH := hide h
  clear h
  go_enter Try.func26, Try.ntmps26
  go_wp2_with (first | (at_make; refine wpList_make_full _ rfl _ _ 32 rfl w.heap.size 5 i0 (.int .u8 0) 1 Try.underlying32 hi hz0 hz1 _ _ _ _ n rfl rfl rfl rfl ?b1 ?b2 ?b3 ?_) | go_in)
  case b1 => rw [hz2]; omega
  case b2 => unfold maxLen; omega
  case b3 => simp
  intro w1 hown hgrow
  have HR0 := hide (Row.make hown)
  have HBl0 : Hid (Below w.heap.size w w1) := (Below.refl _ _).grown hgrow (Nat.le_refl _) (by simp)
  clear hown hgrow
  go_wp2
  go_loopw [4] (fun q wr => ∃ k : Nat, k ≤ n ∧ q = .int .i64 k ∧ Below w.heap.size w wr ∧ Row wr w.heap.size 5 n (fun i => .int .u8 (if i < k then swapC (t i) else 0)))
    (fun q _ => n - (intOf q).toNat)
  case atStart => exact ⟨0, Nat.zero_le _, rfl, unhide HBl0, (unhide HR0).cong (by simp)⟩
  case round =>
    obtain ⟨k, hk, rfl, hbel, hrow⟩ := hrel
    clear HR0 HBl0
    by_cases hlt : k < n
    · have hck := ((unhide HH).stays hbel).cells k hlt
      have hai := (unhide HH).at0 (by omega)
      have hbt := (unhide HH).bytes k
      have df := hrow.free k
      have dk := hrow.cell (j := k) (by omega)
      simp at dk
      have HB := hide hbel
      have HR := hide hrow
      clear hbel hrow
      subst hai
      obtain ⟨c, hc⟩ : ∃ c, c = t k := ⟨_, rfl⟩
      rw [← hc] at hck hbt
      have HC := hide hc
      clear hc
      obtain ⟨hb0, hb1⟩ := hbt
      rcases (show (97 ≤ c ∧ c ≤ 122) ∨ (65 ≤ c ∧ c ≤ 90) ∨ c < 65 ∨ (90 < c ∧ c < 97) ∨ 122 < c by omega) with ⟨k1, k2⟩ | ⟨k1, k2⟩ | k1 | ⟨k1, k2⟩ | k1
      all_goals
        go_wp2
        go_roundw
        case rel =>
          refine ⟨k + 1, by omega, by go_num, brow_put (unhide HB) (unhide HR) fun i hi => ?_⟩
          by_cases e : i = k
          · subst e
            rw [if_pos rfl, if_pos (by omega), ← unhide HC]
            unfold swapC
            first
              | rw [if_pos (show 97 ≤ c ∧ c ≤ 122 by omega)]
              | rw [if_neg (show ¬ (97 ≤ c ∧ c ≤ 122) by omega), if_pos (show 65 ≤ c ∧ c ≤ 90 by omega)]
              | rw [if_neg (show ¬ (97 ≤ c ∧ c ≤ 122) by omega), if_neg (show ¬ (65 ≤ c ∧ c ≤ 90) by omega)]
          · by_cases e2 : i < k
            · simp [e, e2]; omega
            · simp [e, e2]; omega
        case measure => simp [intOf]; omega
    · have HB := hide hbel
      have HR := hide hrow
      clear hbel hrow
      go_wp2
      go_ret
      refine ⟨rfl, unhide HB, Nat.le_refl _, by omega, fun _ => rfl, fun i hi => ?_, fun i => swapC_bounds ((unhide HH).bytes i)⟩
      rw [Nat.zero_add, (unhide HR).cell hi, if_pos (by omega)]
end Go.Proofs.Qxb6601726a
