import Derived.Test.Qxb6601726aHelp
namespace Go.Proofs.Qxb6601726a
open Go.ChangeShapes Go.WideShapes Go.ChangeAt Go.RowKit
set_option linter.unusedVariables false
def PBool (e : Ending) : Prop := ∃ r : Bool, e = .returned (.bool r)

set_option maxHeartbeats 1000000 in
theorem bytes13_u (ai : Option Addr) (b off len cap : Nat) (ss : Nat → ByteArray) (a1 : Option Addr) (n1 c1 : Nat) (at0 : Int) (w : World) (hlen : len ≤ 9223372036854775807) (hn1 : n1 ≤ 9223372036854775807) (h : WordsAt w ai b off len ss) (hsz : ∀ i, i < len → (ss i).size ≤ 9223372036854775807) :
    Calls Try.prog 13 #[.slice ai len cap, .slice a1 n1 c1, .int .i64 at0] w fun e w' => PBool e ∧ w = w' := by
  have HH := hide h
  clear h
  have HSZ := hide hsz
  clear hsz
  by_cases hl : 1048576 < len
  · clear HH HSZ
    go_enter Try.func13, Try.ntmps13
    go_wp2
    go_ret
    exact ⟨⟨_, rfl⟩, rfl⟩
  go_enter Try.func13, Try.ntmps13
  go_wp2
  go_loop [7, 8] (fun n i => ∃ (k : Nat) (z : Int), k ≤ len ∧ i = .int .i64 k ∧ 0 ≤ z ∧ z ≤ 1048576 ∧ n = .int .i64 z) (fun _ i => len - (intOf i).toNat)
  case atStart => exact ⟨0, len, Nat.zero_le _, rfl, by omega, by omega, by go_num⟩
  case round =>
    obtain ⟨k, z, hk, rfl, hz0, hz1, rfl⟩ := hrel
    by_cases hlt : k < len
    · have hck := (unhide HH).cells k hlt
      have hai := (unhide HH).at0 (by omega)
      have hsz := unhide HSZ k hlt
      clear HH HSZ
      subst hai
      by_cases hbig : 1048576 < (ss k).size
      · go_wp2
        go_ret
        exact ⟨⟨_, rfl⟩, rfl⟩
      by_cases hbig2 : 1048576 < z + (ss k).size
      · go_wp2
        go_ret
        exact ⟨⟨_, rfl⟩, rfl⟩
      · go_wp2
        go_round
        case rel => exact ⟨k + 1, z + (ss k).size, by omega, by go_num, by omega, by omega, by go_num⟩
        case measure => simp [intOf]; omega
    · clear HH HSZ
      by_cases q1 : 1048576 < n1
      · go_wp2
        go_ret
        exact ⟨⟨_, rfl⟩, rfl⟩
      by_cases q2 : 1048576 < z + n1
      · go_wp2
        go_ret
        exact ⟨⟨_, rfl⟩, rfl⟩
      go_wp2
      go_ret
      exact ⟨⟨_, rfl⟩, rfl⟩

set_option maxHeartbeats 1000000 in
theorem bytes23_u (ai : Option Addr) (b off len cap : Nat) (ss : Nat → ByteArray) (a1 : Option Addr) (n1 c1 : Nat) (at0 : Int) (w : World) (hlen : len ≤ 9223372036854775807) (hn1 : n1 ≤ 9223372036854775807) (h : WordsAt w ai b off len ss) (hsz : ∀ i, i < len → (ss i).size ≤ 9223372036854775807) :
    Calls Try.prog 23 #[.slice ai len cap, .slice a1 n1 c1, .int .i64 at0] w fun e w' => PBool e ∧ w = w' := by
  have HH := hide h
  clear h
  have HSZ := hide hsz
  clear hsz
  by_cases hl : 1048576 < len
  · clear HH HSZ
    go_enter Try.func23, Try.ntmps23
    go_wp2
    go_ret
    exact ⟨⟨_, rfl⟩, rfl⟩
  go_enter Try.func23, Try.ntmps23
  go_wp2
  go_loop [7, 8] (fun n i => ∃ (k : Nat) (z : Int), k ≤ len ∧ i = .int .i64 k ∧ 0 ≤ z ∧ z ≤ 1048576 ∧ n = .int .i64 z) (fun _ i => len - (intOf i).toNat)
  case atStart => exact ⟨0, len, Nat.zero_le _, rfl, by omega, by omega, by go_num⟩
  case round =>
    obtain ⟨k, z, hk, rfl, hz0, hz1, rfl⟩ := hrel
    by_cases hlt : k < len
    · have hck := (unhide HH).cells k hlt
      have hai := (unhide HH).at0 (by omega)
      have hsz := unhide HSZ k hlt
      clear HH HSZ
      subst hai
      by_cases hbig : 1048576 < (ss k).size
      · go_wp2
        go_ret
        exact ⟨⟨_, rfl⟩, rfl⟩
      by_cases hbig2 : 1048576 < z + (ss k).size
      · go_wp2
        go_ret
        exact ⟨⟨_, rfl⟩, rfl⟩
      · go_wp2
        go_round
        case rel => exact ⟨k + 1, z + (ss k).size, by omega, by go_num, by omega, by omega, by go_num⟩
        case measure => simp [intOf]; omega
    · clear HH HSZ
      by_cases q1 : 1048576 < n1
      · go_wp2
        go_ret
        exact ⟨⟨_, rfl⟩, rfl⟩
      by_cases q2 : 1048576 < z + n1
      · go_wp2
        go_ret
        exact ⟨⟨_, rfl⟩, rfl⟩
      go_wp2
      go_ret
      exact ⟨⟨_, rfl⟩, rfl⟩

set_option maxHeartbeats 1000000 in
theorem bytes24_u (ai : Option Addr) (b off len cap : Nat) (ss : Nat → ByteArray) (a1 : Option Addr) (n1 c1 : Nat) (at0 : Int) (w : World) (hlen : len ≤ 9223372036854775807) (hn1 : n1 ≤ 9223372036854775807) (h : WordsAt w ai b off len ss) (hsz : ∀ i, i < len → (ss i).size ≤ 9223372036854775807) :
    Calls Try.prog 24 #[.slice ai len cap, .slice a1 n1 c1, .int .i64 at0] w fun e w' => PBool e ∧ w = w' := by
  have HH := hide h
  clear h
  have HSZ := hide hsz
  clear hsz
  by_cases hl : 1048576 < len
  · clear HH HSZ
    go_enter Try.func24, Try.ntmps24
    go_wp2
    go_ret
    exact ⟨⟨_, rfl⟩, rfl⟩
  go_enter Try.func24, Try.ntmps24
  go_wp2
  go_loop [7, 8] (fun n i => ∃ (k : Nat) (z : Int), k ≤ len ∧ i = .int .i64 k ∧ 0 ≤ z ∧ z ≤ 1048576 ∧ n = .int .i64 z) (fun _ i => len - (intOf i).toNat)
  case atStart => exact ⟨0, len, Nat.zero_le _, rfl, by omega, by omega, by go_num⟩
  case round =>
    obtain ⟨k, z, hk, rfl, hz0, hz1, rfl⟩ := hrel
    by_cases hlt : k < len
    · have hck := (unhide HH).cells k hlt
      have hai := (unhide HH).at0 (by omega)
      have hsz := unhide HSZ k hlt
      clear HH HSZ
      subst hai
      by_cases hbig : 1048576 < (ss k).size
      · go_wp2
        go_ret
        exact ⟨⟨_, rfl⟩, rfl⟩
      by_cases hbig2 : 1048576 < z + (ss k).size
      · go_wp2
        go_ret
        exact ⟨⟨_, rfl⟩, rfl⟩
      · go_wp2
        go_round
        case rel => exact ⟨k + 1, z + (ss k).size, by omega, by go_num, by omega, by omega, by go_num⟩
        case measure => simp [intOf]; omega
    · clear HH HSZ
      by_cases q1 : 1048576 < n1
      · go_wp2
        go_ret
        exact ⟨⟨_, rfl⟩, rfl⟩
      by_cases q2 : 1048576 < z + n1
      · go_wp2
        go_ret
        exact ⟨⟨_, rfl⟩, rfl⟩
      go_wp2
      go_ret
      exact ⟨⟨_, rfl⟩, rfl⟩

set_option maxHeartbeats 1000000 in
theorem bytes22_u (ai : Option Addr) (b off len cap : Nat) (ss : Nat → ByteArray) (a1 : Option Addr) (n1 c1 : Nat) (a2 : Option Addr) (n2 c2 : Nat) (at0 : Int) (w : World) (hlen : len ≤ 9223372036854775807) (hn1 : n1 ≤ 9223372036854775807) (hn2 : n2 ≤ 9223372036854775807) (h : WordsAt w ai b off len ss) (hsz : ∀ i, i < len → (ss i).size ≤ 9223372036854775807) :
    Calls Try.prog 22 #[.slice ai len cap, .slice a1 n1 c1, .slice a2 n2 c2, .int .i64 at0] w fun e w' => PBool e ∧ w = w' := by
  have HH := hide h
  clear h
  have HSZ := hide hsz
  clear hsz
  by_cases hl : 1048576 < len
  · clear HH HSZ
    go_enter Try.func22, Try.ntmps22
    go_wp2
    go_ret
    exact ⟨⟨_, rfl⟩, rfl⟩
  go_enter Try.func22, Try.ntmps22
  go_wp2
  go_loop [9, 10] (fun n i => ∃ (k : Nat) (z : Int), k ≤ len ∧ i = .int .i64 k ∧ 0 ≤ z ∧ z ≤ 1048576 ∧ n = .int .i64 z) (fun _ i => len - (intOf i).toNat)
  case atStart => exact ⟨0, len, Nat.zero_le _, rfl, by omega, by omega, by go_num⟩
  case round =>
    obtain ⟨k, z, hk, rfl, hz0, hz1, rfl⟩ := hrel
    by_cases hlt : k < len
    · have hck := (unhide HH).cells k hlt
      have hai := (unhide HH).at0 (by omega)
      have hsz := unhide HSZ k hlt
      clear HH HSZ
      subst hai
      by_cases hbig : 1048576 < (ss k).size
      · go_wp2
        go_ret
        exact ⟨⟨_, rfl⟩, rfl⟩
      by_cases hbig2 : 1048576 < z + (ss k).size
      · go_wp2
        go_ret
        exact ⟨⟨_, rfl⟩, rfl⟩
      · go_wp2
        go_round
        case rel => exact ⟨k + 1, z + (ss k).size, by omega, by go_num, by omega, by omega, by go_num⟩
        case measure => simp [intOf]; omega
    · clear HH HSZ
      by_cases q1 : 1048576 < n1
      · go_wp2
        go_ret
        exact ⟨⟨_, rfl⟩, rfl⟩
      by_cases q2 : 1048576 < z + n1
      · go_wp2
        go_ret
        exact ⟨⟨_, rfl⟩, rfl⟩
      by_cases q3 : 1048576 < n2
      · go_wp2
        go_ret
        exact ⟨⟨_, rfl⟩, rfl⟩
      by_cases q4 : 1048576 < z + n1 + n2
      · go_wp2
        go_ret
        exact ⟨⟨_, rfl⟩, rfl⟩
      go_wp2
      go_ret
      exact ⟨⟨_, rfl⟩, rfl⟩

end Go.Proofs.Qxb6601726a
