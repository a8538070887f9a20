import Derived.Test.Qxb6601726aMem2
import Derived.BigRegion
namespace Go.Proofs.Qxb6601726a
open Go.ChangeShapes Go.WideShapes Go.ChangeAt Go.RowKit
set_option linter.unusedVariables false

theorem M2.tcong {w wr : World} {ss : Nat → ByteArray} {m : Nat} {ao : Option Addr} {gw cw sh : Nat} {lo : Int} {tb cp : Nat → Nat} {tv tv' : Nat → Value} {ag : Nat → Int} (h : M2 w wr ss m ao gw cw sh lo tb cp tv ag) (hf : ∀ p, p < 65536 → tv p = tv' p) : M2 w wr ss m ao gw cw sh lo tb cp tv' ag :=
  ⟨h.below, h.strc, h.table.cong hf, h.at0, h.cap, h.gwlo, h.words, h.text, h.caps⟩
theorem M2.acong {w wr : World} {ss : Nat → ByteArray} {m : Nat} {ao : Option Addr} {gw cw sh : Nat} {lo : Int} {tb cp : Nat → Nat} {tv : Nat → Value} {ag ag' : Nat → Int} (h : M2 w wr ss m ao gw cw sh lo tb cp tv ag) (hf : ∀ j, j < m → ag j = ag' j) : M2 w wr ss m ao gw cw sh lo tb cp tv ag' :=
  ⟨h.below, h.strc, h.table, h.at0, h.cap, h.gwlo, fun h0 => by
    obtain ⟨cur, hg, hc⟩ := h.words h0
    exact ⟨cur, hg, fun j hj => by rw [← hf j hj]; exact hc j hj⟩, h.text, h.caps⟩

set_option maxRecDepth 100000 in
set_option maxHeartbeats 2000000 in
/-- 'for i := range s.skip': the table is filled. -/
theorem loop2 (c0 c1 c2 c4 c5 c6 c7 c8 c9 c10 c11 c12 c13 c14 c15 c16 c17 c18 c19 c20 c21 c22 c23 c24 c25 c26 c27 c28 c29 c30 c31 c32 c33 c34 c35 c36 c37 c38 c39 c40 c41 c42 c43 c44 c45 c46 c47 c48 c49 c50 c51 c52 c53 c54 c55 c56 c57 c58 c59 c60 c61 c62 c63 c64 c65 c66 c67 c68 c69 c70 c71 c73 c74 c75 c76 c77 c78 c79 c80 c81 c82 c83 c84 c85 c86 c87 c88 c89 c90 c91 c92 c93 c94 c95 c96 c97 c98 c99 c100 c101 c102 c103 c104 c105 c106 c107 c108 c109 c110 c111 c112 c113 c114 c115 c116 c117 c118 c119 c120 c121 c122 c123 c124 c125 c126 c127 c128 c129 c130 c131 c132 c133 c134 c135 c136 c137 c138 c139 c140 c141 c142 c143 c144 c145 c146 c147 c148 c149 c150 c151 c152 c153 c154 c155 c156 c157 c158 c159 c160 c161 c162 c163 c164 c165 c166 c167 c168 c169 c170 c171 c172 c173 c174 c175 c176 c177 c178 c179 c180 c181 c182 c183 c184 c185 c186 c187 c188 c189 c190 c191 c192 c193 c194 c195 c196 c197 c198 c199 c200 c201 c202 c203 c204 : Value) (w wr0 : World) (ss : Nat → ByteArray) (m : Nat) (ao : Option Addr) (gw cw sh : Nat) (lo : Int) (tb cp : Nat → Nat) (tv : Nat → Value) (ag : Nat → Int) (h : M2 w wr0 ss m ao gw cw sh lo tb cp tv ag) (hs1 : 2 ≤ sh) (hs2 : sh ≤ 64) (Q : Exit → Act → World → Prop)
    (hQ : Hid (∀ (wx : World) (u6 u72 u73 u74 u75 u76 u77 u78 u79 u80 u81 u82 u83 u84 u85 u86 u87 u88 : Value), M2 w wx ss m ao gw cw sh lo tb cp (fun _ => .int .u8 ((sh : Int) - 1)) ag → Q (.exit 2) ⟨List.toArray (c0 :: c1 :: c2 :: .pointer (some ⟨w.heap.size + 1, 0, none⟩) :: c4 :: c5 :: u6 :: c7 :: c8 :: c9 :: c10 :: c11 :: c12 :: c13 :: c14 :: c15 :: c16 :: c17 :: c18 :: c19 :: c20 :: c21 :: c22 :: c23 :: c24 :: c25 :: c26 :: c27 :: c28 :: c29 :: c30 :: c31 :: c32 :: c33 :: c34 :: c35 :: c36 :: c37 :: c38 :: c39 :: c40 :: c41 :: c42 :: c43 :: c44 :: c45 :: c46 :: c47 :: c48 :: c49 :: c50 :: c51 :: c52 :: c53 :: c54 :: c55 :: c56 :: c57 :: c58 :: c59 :: c60 :: c61 :: c62 :: c63 :: c64 :: c65 :: c66 :: c67 :: c68 :: c69 :: c70 :: c71 :: u72 :: u73 :: u74 :: u75 :: u76 :: u77 :: u78 :: u79 :: u80 :: u81 :: u82 :: u83 :: u84 :: u85 :: u86 :: u87 :: u88 :: c89 :: c90 :: c91 :: c92 :: c93 :: c94 :: c95 :: c96 :: c97 :: c98 :: c99 :: c100 :: c101 :: c102 :: c103 :: c104 :: c105 :: c106 :: c107 :: c108 :: c109 :: c110 :: c111 :: c112 :: c113 :: c114 :: c115 :: c116 :: c117 :: c118 :: c119 :: c120 :: c121 :: c122 :: c123 :: c124 :: c125 :: c126 :: c127 :: c128 :: c129 :: c130 :: c131 :: c132 :: c133 :: c134 :: c135 :: c136 :: c137 :: c138 :: c139 :: c140 :: c141 :: c142 :: c143 :: c144 :: c145 :: c146 :: c147 :: c148 :: c149 :: c150 :: c151 :: c152 :: c153 :: c154 :: c155 :: c156 :: c157 :: c158 :: c159 :: c160 :: c161 :: c162 :: c163 :: c164 :: c165 :: c166 :: c167 :: c168 :: c169 :: c170 :: c171 :: c172 :: c173 :: c174 :: c175 :: c176 :: c177 :: c178 :: c179 :: c180 :: c181 :: c182 :: c183 :: c184 :: c185 :: c186 :: c187 :: c188 :: c189 :: c190 :: c191 :: c192 :: c193 :: c194 :: c195 :: c196 :: c197 :: c198 :: c199 :: c200 :: c201 :: c202 :: c203 :: c204 :: []), []⟩ wx)) :
    Code.wp Try.prog ((Try.f28.body.bind (getLoop 11)).getD .skip) Q ⟨List.toArray (c0 :: c1 :: c2 :: .pointer (some ⟨w.heap.size + 1, 0, none⟩) :: c4 :: c5 :: c6 :: c7 :: c8 :: c9 :: c10 :: c11 :: c12 :: c13 :: c14 :: c15 :: c16 :: c17 :: c18 :: c19 :: c20 :: c21 :: c22 :: c23 :: c24 :: c25 :: c26 :: c27 :: c28 :: c29 :: c30 :: c31 :: c32 :: c33 :: c34 :: c35 :: c36 :: c37 :: c38 :: c39 :: c40 :: c41 :: c42 :: c43 :: c44 :: c45 :: c46 :: c47 :: c48 :: c49 :: c50 :: c51 :: c52 :: c53 :: c54 :: c55 :: c56 :: c57 :: c58 :: c59 :: c60 :: c61 :: c62 :: c63 :: c64 :: c65 :: c66 :: c67 :: c68 :: c69 :: c70 :: c71 :: .int .i64 0 :: c73 :: c74 :: c75 :: c76 :: c77 :: c78 :: c79 :: c80 :: c81 :: c82 :: c83 :: c84 :: c85 :: c86 :: c87 :: c88 :: c89 :: c90 :: c91 :: c92 :: c93 :: c94 :: c95 :: c96 :: c97 :: c98 :: c99 :: c100 :: c101 :: c102 :: c103 :: c104 :: c105 :: c106 :: c107 :: c108 :: c109 :: c110 :: c111 :: c112 :: c113 :: c114 :: c115 :: c116 :: c117 :: c118 :: c119 :: c120 :: c121 :: c122 :: c123 :: c124 :: c125 :: c126 :: c127 :: c128 :: c129 :: c130 :: c131 :: c132 :: c133 :: c134 :: c135 :: c136 :: c137 :: c138 :: c139 :: c140 :: c141 :: c142 :: c143 :: c144 :: c145 :: c146 :: c147 :: c148 :: c149 :: c150 :: c151 :: c152 :: c153 :: c154 :: c155 :: c156 :: c157 :: c158 :: c159 :: c160 :: c161 :: c162 :: c163 :: c164 :: c165 :: c166 :: c167 :: c168 :: c169 :: c170 :: c171 :: c172 :: c173 :: c174 :: c175 :: c176 :: c177 :: c178 :: c179 :: c180 :: c181 :: c182 :: c183 :: c184 :: c185 :: c186 :: c187 :: c188 :: c189 :: c190 :: c191 :: c192 :: c193 :: c194 :: c195 :: c196 :: c197 :: c198 :: c199 :: c200 :: c201 :: c202 :: c203 :: c204 :: []), []⟩ wr0 := by
  conv => arg 2; whnf
  go_loopw [72] (fun q wr => ∃ k : Nat, k ≤ 65536 ∧ q = .int .i64 k ∧ M2 w wr ss m ao gw cw sh lo tb cp (fun p => if p < k then .int .u8 ((sh : Int) - 1) else tv p) ag)
    (fun q _ => 65536 - (intOf q).toNat)
  case atStart => exact ⟨0, Nat.zero_le _, rfl, h.tcong (by simp)⟩
  case round =>
    obtain ⟨k, hk, rfl, hM⟩ := hrel
    by_cases hlt : k < 65536
    · have d1 := hM.c1
      have d3 := hM.c3
      have dk := hM.table.cell hlt
      rw [if_neg (Nat.lt_irrefl _)] at dk
      have df := hM.table.free k
      have HM := hide hM
      have HL := hide hlt
      have hd : decide ((k : Int) < 65536) = true := decide_eq_true (by omega)
      have hd2 : (k : Int) < 65536 := by omega
      have HK := hide hk
      clear hM h hlt hk
      go_wp2_with fail
      go_region
      go_wp2_with fail
      go_roundw
      case rel =>
        have hlt := unhide HL
        refine ⟨k + 1, by omega, by go_num, (((unhide HM).setTab k _).drew).tcong fun p hp => ?_⟩
        by_cases e : p = k
        · subst e; simp
        · by_cases e2 : p < k
          · simp [e, e2]; omega
          · simp [e, e2]; omega
      case measure => have hlt := unhide HL; simp [intOf]; omega
    · have HM := hide hM
      have HL := hide hlt
      have hd : decide ((k : Int) < 65536) = false := decide_eq_false (by omega)
      clear hM h hlt hk
      go_wp2
      have hlt := unhide HL
      exact hQ.out _ _ _ _ _ _ _ _ _ _ _ _ _ _ _ _ _ _ _ ((unhide HM).tcong fun p hp => by rw [if_pos (by omega)])

set_option maxRecDepth 100000 in
set_option maxHeartbeats 2000000 in
/-- 'for i := range s.words': the second skips are filled. -/
theorem loop3 (c0 c1 c2 c4 c5 c6 c7 c8 c9 c10 c11 c12 c13 c14 c15 c16 c17 c18 c19 c20 c21 c22 c23 c24 c25 c26 c27 c28 c29 c30 c31 c32 c33 c34 c35 c36 c37 c38 c39 c40 c41 c42 c43 c44 c45 c46 c47 c48 c49 c50 c51 c52 c53 c54 c55 c56 c57 c58 c59 c60 c61 c62 c63 c64 c65 c66 c67 c68 c69 c70 c71 c72 c73 c74 c75 c76 c77 c78 c79 c80 c81 c82 c83 c84 c85 c86 c87 c88 c89 c90 c91 c92 c95 c96 c97 c98 c99 c100 c101 c102 c103 c104 c105 c106 c107 c108 c109 c110 c111 c112 c113 c114 c115 c116 c117 c118 c119 c120 c121 c122 c123 c124 c125 c126 c127 c128 c129 c130 c131 c132 c133 c134 c135 c136 c137 c138 c139 c140 c141 c142 c143 c144 c145 c146 c147 c148 c149 c150 c151 c152 c153 c154 c155 c156 c157 c158 c159 c160 c161 c162 c163 c164 c165 c166 c167 c168 c169 c170 c171 c172 c173 c174 c175 c176 c177 c178 c179 c180 c181 c182 c183 c184 c185 c186 c187 c188 c189 c190 c191 c192 c193 c194 c195 c196 c197 c198 c199 c200 c201 c202 c203 c204 : Value) (w wr0 : World) (ss : Nat → ByteArray) (m : Nat) (ao : Option Addr) (gw cw sh : Nat) (lo : Int) (tb cp : Nat → Nat) (tv : Nat → Value) (ag : Nat → Int) (h : M2 w wr0 ss m ao gw cw sh lo tb cp tv ag) (hs1 : 2 ≤ sh) (hs2 : sh ≤ 64) (hm : m ≤ 1048576) (Q : Exit → Act → World → Prop)
    (hQ : Hid (∀ (wx : World) (u7 u94 u95 u96 u97 u98 u99 u100 u101 u102 u103 u104 u105 u106 u107 u108 u109 u110 : Value), M2 w wx ss m ao gw cw sh lo tb cp tv (fun _ => (sh : Int) - 1) → Q (.exit 4) ⟨List.toArray (c0 :: c1 :: c2 :: .pointer (some ⟨w.heap.size + 1, 0, none⟩) :: c4 :: c5 :: c6 :: u7 :: c8 :: c9 :: c10 :: c11 :: c12 :: c13 :: c14 :: c15 :: c16 :: c17 :: c18 :: c19 :: c20 :: c21 :: c22 :: c23 :: c24 :: c25 :: c26 :: c27 :: c28 :: c29 :: c30 :: c31 :: c32 :: c33 :: c34 :: c35 :: c36 :: c37 :: c38 :: c39 :: c40 :: c41 :: c42 :: c43 :: c44 :: c45 :: c46 :: c47 :: c48 :: c49 :: c50 :: c51 :: c52 :: c53 :: c54 :: c55 :: c56 :: c57 :: c58 :: c59 :: c60 :: c61 :: c62 :: c63 :: c64 :: c65 :: c66 :: c67 :: c68 :: c69 :: c70 :: c71 :: c72 :: c73 :: c74 :: c75 :: c76 :: c77 :: c78 :: c79 :: c80 :: c81 :: c82 :: c83 :: c84 :: c85 :: c86 :: c87 :: c88 :: c89 :: c90 :: c91 :: c92 :: .int .i64 (m : Int) :: u94 :: u95 :: u96 :: u97 :: u98 :: u99 :: u100 :: u101 :: u102 :: u103 :: u104 :: u105 :: u106 :: u107 :: u108 :: u109 :: u110 :: c111 :: c112 :: c113 :: c114 :: c115 :: c116 :: c117 :: c118 :: c119 :: c120 :: c121 :: c122 :: c123 :: c124 :: c125 :: c126 :: c127 :: c128 :: c129 :: c130 :: c131 :: c132 :: c133 :: c134 :: c135 :: c136 :: c137 :: c138 :: c139 :: c140 :: c141 :: c142 :: c143 :: c144 :: c145 :: c146 :: c147 :: c148 :: c149 :: c150 :: c151 :: c152 :: c153 :: c154 :: c155 :: c156 :: c157 :: c158 :: c159 :: c160 :: c161 :: c162 :: c163 :: c164 :: c165 :: c166 :: c167 :: c168 :: c169 :: c170 :: c171 :: c172 :: c173 :: c174 :: c175 :: c176 :: c177 :: c178 :: c179 :: c180 :: c181 :: c182 :: c183 :: c184 :: c185 :: c186 :: c187 :: c188 :: c189 :: c190 :: c191 :: c192 :: c193 :: c194 :: c195 :: c196 :: c197 :: c198 :: c199 :: c200 :: c201 :: c202 :: c203 :: c204 :: []), []⟩ wx)) :
    Code.wp Try.prog ((Try.f28.body.bind (getLoop 16)).getD .skip) Q ⟨List.toArray (c0 :: c1 :: c2 :: .pointer (some ⟨w.heap.size + 1, 0, none⟩) :: c4 :: c5 :: c6 :: c7 :: c8 :: c9 :: c10 :: c11 :: c12 :: c13 :: c14 :: c15 :: c16 :: c17 :: c18 :: c19 :: c20 :: c21 :: c22 :: c23 :: c24 :: c25 :: c26 :: c27 :: c28 :: c29 :: c30 :: c31 :: c32 :: c33 :: c34 :: c35 :: c36 :: c37 :: c38 :: c39 :: c40 :: c41 :: c42 :: c43 :: c44 :: c45 :: c46 :: c47 :: c48 :: c49 :: c50 :: c51 :: c52 :: c53 :: c54 :: c55 :: c56 :: c57 :: c58 :: c59 :: c60 :: c61 :: c62 :: c63 :: c64 :: c65 :: c66 :: c67 :: c68 :: c69 :: c70 :: c71 :: c72 :: c73 :: c74 :: c75 :: c76 :: c77 :: c78 :: c79 :: c80 :: c81 :: c82 :: c83 :: c84 :: c85 :: c86 :: c87 :: c88 :: c89 :: c90 :: c91 :: c92 :: .int .i64 (m : Int) :: .int .i64 0 :: c95 :: c96 :: c97 :: c98 :: c99 :: c100 :: c101 :: c102 :: c103 :: c104 :: c105 :: c106 :: c107 :: c108 :: c109 :: c110 :: c111 :: c112 :: c113 :: c114 :: c115 :: c116 :: c117 :: c118 :: c119 :: c120 :: c121 :: c122 :: c123 :: c124 :: c125 :: c126 :: c127 :: c128 :: c129 :: c130 :: c131 :: c132 :: c133 :: c134 :: c135 :: c136 :: c137 :: c138 :: c139 :: c140 :: c141 :: c142 :: c143 :: c144 :: c145 :: c146 :: c147 :: c148 :: c149 :: c150 :: c151 :: c152 :: c153 :: c154 :: c155 :: c156 :: c157 :: c158 :: c159 :: c160 :: c161 :: c162 :: c163 :: c164 :: c165 :: c166 :: c167 :: c168 :: c169 :: c170 :: c171 :: c172 :: c173 :: c174 :: c175 :: c176 :: c177 :: c178 :: c179 :: c180 :: c181 :: c182 :: c183 :: c184 :: c185 :: c186 :: c187 :: c188 :: c189 :: c190 :: c191 :: c192 :: c193 :: c194 :: c195 :: c196 :: c197 :: c198 :: c199 :: c200 :: c201 :: c202 :: c203 :: c204 :: []), []⟩ wr0 := by
  conv => arg 2; whnf
  go_loopw [94] (fun q wr => ∃ k : Nat, k ≤ m ∧ q = .int .i64 k ∧ M2 w wr ss m ao gw cw sh lo tb cp tv (fun j => if j < k then (sh : Int) - 1 else ag j))
    (fun q _ => m - (intOf q).toNat)
  case atStart => exact ⟨0, Nat.zero_le _, rfl, h.acong (by simp)⟩
  case round =>
    obtain ⟨k, hk, rfl, hM⟩ := hrel
    by_cases hlt : k < m
    · have d0 := hM.c0
      rw [hM.at0 (by omega)] at d0
      have d1 := hM.c1
      have dk := hM.w2 hlt
      simp at dk
      have df := hM.wfree (by omega) (k * 3 + 2)
      have HM := hide hM
      clear hM h
      go_wp2
      go_region
      go_wp2
      go_roundw
      case rel =>
        refine ⟨k + 1, by omega, by go_num, (((unhide HM).setAg hlt _).drew).acong fun p hp => ?_⟩
        by_cases e : p = k
        · subst e; simp
        · by_cases e2 : p < k
          · simp [e, e2]; omega
          · simp [e, e2]; omega
      case measure => simp [intOf]; omega
    · have HM := hide hM
      clear hM h
      go_wp2
      exact hQ.out _ _ _ _ _ _ _ _ _ _ _ _ _ _ _ _ _ _ _ ((unhide HM).acong fun p hp => by rw [if_pos (by omega)])
end Go.Proofs.Qxb6601726a
