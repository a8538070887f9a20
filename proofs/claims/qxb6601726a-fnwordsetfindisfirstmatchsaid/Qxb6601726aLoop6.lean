import Derived.Test.Qxb6601726aLoops23
import Derived.Lib.MinMax
import Derived.Deep.RegionHeld3
namespace Go.Proofs.Qxb6601726a
open Go.ChangeShapes Go.WideShapes Go.ChangeAt Go.RowKit
set_option linter.unusedVariables false

/-- What the innermost loop makes of word j's second skip. -/
def agF (ss : Nat → ByteArray) (P d : Int) (ag : Nat → Int) (j : Nat) : Int := if 0 < d ∧ lastOf (ss j) = P then min (ag j) d else ag j

set_option maxRecDepth 100000 in
set_option maxHeartbeats 4000000 in
theorem loop6 (c0 c1 c2 c4 c5 c6 c7 c8 c9 c10 c11 c14 c15 c16 c17 c18 c19 c20 c21 c22 c23 c24 c25 c26 c27 c28 c29 c30 c31 c32 c33 c34 c35 c36 c37 c38 c39 c40 c41 c42 c43 c44 c45 c46 c47 c48 c49 c50 c51 c52 c53 c54 c55 c56 c57 c58 c59 c60 c61 c62 c63 c64 c65 c66 c67 c68 c69 c70 c71 c72 c73 c74 c75 c76 c77 c78 c79 c80 c81 c82 c83 c84 c85 c86 c87 c88 c89 c90 c91 c92 c93 c94 c95 c96 c97 c98 c99 c100 c101 c102 c103 c104 c105 c106 c107 c108 c109 c110 c111 c112 c113 c114 c115 c116 c117 c118 c119 c120 c121 c122 c123 c124 c125 c126 c127 c128 c129 c130 c131 c132 c133 c134 c135 c136 c137 c138 c139 c140 c141 c142 c143 c144 c145 c146 c147 c148 c149 c150 c151 c152 c153 c154 c155 c156 c157 c158 c159 c160 c161 c162 c163 c164 c165 c166 c169 c170 c171 c172 c173 c174 c175 c176 c177 c178 c179 c180 c181 c182 c183 c184 c185 c186 c187 c188 c189 c190 c191 c192 c193 c194 c195 c196 c197 c198 c199 c200 c201 c202 c203 c204 : Value) (w wr0 : World) (ss : Nat → ByteArray) (m : Nat) (ao : Option Addr) (gw cw sh : Nat) (lo : Int) (tb cp : Nat → Nat) (tv : Nat → Value) (ag : Nat → Int) (P d : Int) (h : M2 w wr0 ss m ao gw cw sh lo tb cp tv ag) (hm : m ≤ 1048576) (hd0 : 0 ≤ d) (hd1 : d ≤ 255) (Q : Exit → Act → World → Prop)
    (hQ : Hid (∀ (wx : World) (u14 u168 u169 u170 u171 u172 u173 u174 u175 u176 u177 u178 u179 u180 u181 u182 u183 u184 u185 u186 u187 u188 u189 u190 u191 u192 u193 u194 u195 u196 u197 u198 u199 u200 u201 u202 : Value), M2 w wx ss m ao gw cw sh lo tb cp tv (agF ss P d ag) → Q (.exit 10) ⟨List.toArray (c0 :: c1 :: c2 :: .pointer (some ⟨w.heap.size + 1, 0, none⟩) :: c4 :: c5 :: c6 :: c7 :: c8 :: c9 :: c10 :: c11 :: .int .u16 P :: .int .u8 d :: u14 :: c15 :: c16 :: c17 :: c18 :: c19 :: c20 :: c21 :: c22 :: c23 :: c24 :: c25 :: c26 :: c27 :: c28 :: c29 :: c30 :: c31 :: c32 :: c33 :: c34 :: c35 :: c36 :: c37 :: c38 :: c39 :: c40 :: c41 :: c42 :: c43 :: c44 :: c45 :: c46 :: c47 :: c48 :: c49 :: c50 :: c51 :: c52 :: c53 :: c54 :: c55 :: c56 :: c57 :: c58 :: c59 :: c60 :: c61 :: c62 :: c63 :: c64 :: c65 :: c66 :: c67 :: c68 :: c69 :: c70 :: c71 :: c72 :: c73 :: c74 :: c75 :: c76 :: c77 :: c78 :: c79 :: c80 :: c81 :: c82 :: c83 :: c84 :: c85 :: c86 :: c87 :: c88 :: c89 :: c90 :: c91 :: c92 :: c93 :: c94 :: c95 :: c96 :: c97 :: c98 :: c99 :: c100 :: c101 :: c102 :: c103 :: c104 :: c105 :: c106 :: c107 :: c108 :: c109 :: c110 :: c111 :: c112 :: c113 :: c114 :: c115 :: c116 :: c117 :: c118 :: c119 :: c120 :: c121 :: c122 :: c123 :: c124 :: c125 :: c126 :: c127 :: c128 :: c129 :: c130 :: c131 :: c132 :: c133 :: c134 :: c135 :: c136 :: c137 :: c138 :: c139 :: c140 :: c141 :: c142 :: c143 :: c144 :: c145 :: c146 :: c147 :: c148 :: c149 :: c150 :: c151 :: c152 :: c153 :: c154 :: c155 :: c156 :: c157 :: c158 :: c159 :: c160 :: c161 :: c162 :: c163 :: c164 :: c165 :: c166 :: .int .i64 (m : Int) :: u168 :: u169 :: u170 :: u171 :: u172 :: u173 :: u174 :: u175 :: u176 :: u177 :: u178 :: u179 :: u180 :: u181 :: u182 :: u183 :: u184 :: u185 :: u186 :: u187 :: u188 :: u189 :: u190 :: u191 :: u192 :: u193 :: u194 :: u195 :: u196 :: u197 :: u198 :: u199 :: u200 :: u201 :: u202 :: c203 :: c204 :: []), []⟩ wx)) :
    Code.wp Try.prog ((Try.f28.body.bind (getLoop 30)).getD .skip) Q ⟨List.toArray (c0 :: c1 :: c2 :: .pointer (some ⟨w.heap.size + 1, 0, none⟩) :: c4 :: c5 :: c6 :: c7 :: c8 :: c9 :: c10 :: c11 :: .int .u16 P :: .int .u8 d :: c14 :: c15 :: c16 :: c17 :: c18 :: c19 :: c20 :: c21 :: c22 :: c23 :: c24 :: c25 :: c26 :: c27 :: c28 :: c29 :: c30 :: c31 :: c32 :: c33 :: c34 :: c35 :: c36 :: c37 :: c38 :: c39 :: c40 :: c41 :: c42 :: c43 :: c44 :: c45 :: c46 :: c47 :: c48 :: c49 :: c50 :: c51 :: c52 :: c53 :: c54 :: c55 :: c56 :: c57 :: c58 :: c59 :: c60 :: c61 :: c62 :: c63 :: c64 :: c65 :: c66 :: c67 :: c68 :: c69 :: c70 :: c71 :: c72 :: c73 :: c74 :: c75 :: c76 :: c77 :: c78 :: c79 :: c80 :: c81 :: c82 :: c83 :: c84 :: c85 :: c86 :: c87 :: c88 :: c89 :: c90 :: c91 :: c92 :: c93 :: c94 :: c95 :: c96 :: c97 :: c98 :: c99 :: c100 :: c101 :: c102 :: c103 :: c104 :: c105 :: c106 :: c107 :: c108 :: c109 :: c110 :: c111 :: c112 :: c113 :: c114 :: c115 :: c116 :: c117 :: c118 :: c119 :: c120 :: c121 :: c122 :: c123 :: c124 :: c125 :: c126 :: c127 :: c128 :: c129 :: c130 :: c131 :: c132 :: c133 :: c134 :: c135 :: c136 :: c137 :: c138 :: c139 :: c140 :: c141 :: c142 :: c143 :: c144 :: c145 :: c146 :: c147 :: c148 :: c149 :: c150 :: c151 :: c152 :: c153 :: c154 :: c155 :: c156 :: c157 :: c158 :: c159 :: c160 :: c161 :: c162 :: c163 :: c164 :: c165 :: c166 :: .int .i64 (m : Int) :: .int .i64 0 :: c169 :: c170 :: c171 :: c172 :: c173 :: c174 :: c175 :: c176 :: c177 :: c178 :: c179 :: c180 :: c181 :: c182 :: c183 :: c184 :: c185 :: c186 :: c187 :: c188 :: c189 :: c190 :: c191 :: c192 :: c193 :: c194 :: c195 :: c196 :: c197 :: c198 :: c199 :: c200 :: c201 :: c202 :: c203 :: c204 :: []), []⟩ wr0 := by
  conv => arg 2; whnf
  go_loopw [168] (fun q wr => ∃ k : Nat, k ≤ m ∧ q = .int .i64 k ∧ M2 w wr ss m ao gw cw sh lo tb cp tv (fun j => if j < k then agF ss P d ag j else ag j))
    (fun q _ => m - (intOf q).toNat)
  case atStart => exact ⟨0, Nat.zero_le _, rfl, h.acong (by simp)⟩
  case round =>
    obtain ⟨k, hk, rfl, hM⟩ := hrel
    by_cases hlt : k < m
    · have d0 := hM.c0
      rw [hM.at0 (by omega)] at d0
      have d1 := hM.w1 hlt
      have dk := hM.w2 hlt
      simp at dk
      have df := hM.wfree (by omega) (k * 3 + 2)
      have HM := hide hM
      clear hM h
      obtain ⟨la, hla⟩ : ∃ la, la = lastOf (ss k) := ⟨_, rfl⟩
      rw [← hla] at d1
      have HLA := hide hla
      clear hla
      by_cases hd : 0 < d
      · by_cases hlp : la = P
        · have hb : (la == P) = true := by simp [hlp]
          have HLP := hide hlp
          clear hlp
          go_wp2
          refine wp_region_noPanic ?_
          go_region
          refine NoPanic.normal ?_
          go_wp2
          go_roundw
          case rel =>
            refine ⟨k + 1, by omega, by go_num, (((unhide HM).setAg hlt _).drew).acong fun p hp => ?_⟩
            by_cases e : p = k
            · subst e
              have : agF ss P d ag p = min (ag p) d := by unfold agF; rw [if_pos ⟨hd, by rw [← unhide HLA]; exact unhide HLP⟩]
              simp [this]
            · by_cases e2 : p < k
              · simp [e, e2]; omega
              · simp [e, e2]; omega
          case measure => simp [intOf]; omega
        · have hb : (la == P) = false := by simp [hlp]
          have HLP := hide hlp
          clear hlp
          go_wp2
          go_roundw
          case rel =>
            refine ⟨k + 1, by omega, by go_num, (unhide HM).acong fun p hp => ?_⟩
            by_cases e : p = k
            · subst e
              have : agF ss P d ag p = ag p := by unfold agF; rw [if_neg (fun hc => (unhide HLP) (by rw [unhide HLA]; exact hc.2))]
              simp [this]
            · by_cases e2 : p < k
              · simp [e2]; omega
              · simp [e2]; omega
          case measure => simp [intOf]; omega
      · obtain rfl : d = 0 := by omega
        clear hd0 hd1 hd
        go_wp2
        go_roundw
        case rel =>
          refine ⟨k + 1, by omega, by go_num, (unhide HM).acong fun p hp => ?_⟩
          by_cases e : p = k
          · subst e
            have : agF ss P 0 ag p = ag p := by unfold agF; rw [if_neg (fun hc => by omega)]
            simp [this]
          · by_cases e2 : p < k
            · simp [e2]; omega
            · simp [e2]; omega
        case measure => simp [intOf]; omega
    · have HM := hide hM
      clear hM h
      go_wp2
      exact hQ.out _ _ _ _ _ _ _ _ _ _ _ _ _ _ _ _ _ _ _ _ _ _ _ _ _ _ _ _ _ _ _ _ _ _ _ _ _ ((unhide HM).acong fun p hp => by rw [if_pos (by omega)])
end Go.Proofs.Qxb6601726a
