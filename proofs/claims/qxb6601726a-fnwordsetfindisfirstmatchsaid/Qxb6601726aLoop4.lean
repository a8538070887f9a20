import Derived.Test.Qxb6601726aLoop5
namespace Go.Proofs.Qxb6601726a
open Go.ChangeShapes Go.WideShapes Go.ChangeAt Go.RowKit
set_option linter.unusedVariables false

set_option maxRecDepth 100000 in
set_option maxHeartbeats 4000000 in
theorem loop4 (c0 c1 c2 c4 c5 c6 c7 c8 c9 c10 c11 c12 c13 c14 c15 c16 c17 c18 c19 c20 c21 c22 c23 c24 c25 c26 c27 c28 c29 c30 c31 c32 c33 c34 c35 c36 c37 c38 c39 c40 c41 c42 c43 c44 c45 c46 c47 c48 c49 c50 c51 c52 c53 c54 c55 c56 c57 c58 c59 c60 c61 c62 c63 c64 c65 c66 c67 c68 c69 c70 c71 c72 c73 c74 c75 c76 c77 c78 c79 c80 c81 c82 c83 c84 c85 c86 c87 c88 c89 c90 c91 c92 c93 c94 c95 c96 c97 c98 c99 c100 c101 c102 c103 c104 c105 c106 c107 c108 c109 c110 c111 c112 c113 c117 c118 c119 c120 c121 c122 c123 c124 c125 c126 c127 c128 c129 c130 c131 c132 c133 c134 c135 c136 c137 c138 c139 c140 c141 c142 c143 c144 c145 c146 c147 c148 c149 c150 c151 c152 c153 c154 c155 c156 c157 c158 c159 c160 c161 c162 c163 c164 c165 c166 c167 c168 c169 c170 c171 c172 c173 c174 c175 c176 c177 c178 c179 c180 c181 c182 c183 c184 c185 c186 c187 c188 c189 c190 c191 c192 c193 c194 c195 c196 c197 c198 c199 c200 c201 c202 c203 c204 : Value) (w wr0 : World) (ss : Nat → ByteArray) (m : Nat) (ao : Option Addr) (gw cw sh : Nat) (lo : Int) (tb cp : Nat → Nat) (sk0 : Nat → Int) (ag0 : Nat → Int) (h : M2 w wr0 ss m ao gw cw sh lo tb cp (fun p => .int .u8 (sk0 p)) ag0) (hm : m ≤ 1048576) (hs1 : 2 ≤ sh) (hs2 : sh ≤ 64) (hsz : ∀ j, j < m → sh ≤ (ss j).size ∧ (ss j).size ≤ 64)
    (HT0 : Hid (∀ p, p < 65536 → TabAt sh (Pd sh 0 1) (pairOf ss sh) p (sk0 p))) (HA0 : Hid (∀ q, q < m → AgAt sh (Pd sh 0 1) (pairOf ss sh) (lastOf (ss q)) (ag0 q))) (Q : Exit → Act → World → Prop)
    (hQ : Hid (∀ (wx : World) (sk ag : Nat → Int) (u9 u10 u11 u12 u13 u14 u116 u117 u118 u119 u120 u121 u122 u123 u124 u125 u126 u127 u128 u129 u130 u131 u132 u133 u134 u135 u136 u137 u138 u139 u140 u141 u142 u143 u144 u145 u146 u147 u148 u149 u150 u151 u152 u153 u154 u155 u156 u157 u158 u159 u160 u161 u162 u163 u164 u165 u166 u167 u168 u169 u170 u171 u172 u173 u174 u175 u176 u177 u178 u179 u180 u181 u182 u183 u184 u185 u186 u187 u188 u189 u190 u191 u192 u193 u194 u195 u196 u197 u198 u199 u200 u201 u202 u203 : Value), M2 w wx ss m ao gw cw sh lo tb cp (fun p => .int .u8 (sk p)) ag → (∀ p, p < 65536 → TabAt sh (Pd sh m 1) (pairOf ss sh) p (sk p)) → (∀ q, q < m → AgAt sh (Pd sh m 1) (pairOf ss sh) (lastOf (ss q)) (ag q)) →
      Q (.exit 6) ⟨List.toArray (c0 :: c1 :: c2 :: .pointer (some ⟨w.heap.size + 1, 0, none⟩) :: c4 :: c5 :: c6 :: c7 :: c8 :: u9 :: u10 :: u11 :: u12 :: u13 :: u14 :: c15 :: c16 :: c17 :: c18 :: c19 :: c20 :: c21 :: c22 :: c23 :: c24 :: c25 :: c26 :: c27 :: c28 :: c29 :: c30 :: c31 :: c32 :: c33 :: c34 :: c35 :: c36 :: c37 :: c38 :: c39 :: c40 :: c41 :: c42 :: c43 :: c44 :: c45 :: c46 :: c47 :: c48 :: c49 :: c50 :: c51 :: c52 :: c53 :: c54 :: c55 :: c56 :: c57 :: c58 :: c59 :: c60 :: c61 :: c62 :: c63 :: c64 :: c65 :: c66 :: c67 :: c68 :: c69 :: c70 :: c71 :: c72 :: c73 :: c74 :: c75 :: c76 :: c77 :: c78 :: c79 :: c80 :: c81 :: c82 :: c83 :: c84 :: c85 :: c86 :: c87 :: c88 :: c89 :: c90 :: c91 :: c92 :: c93 :: c94 :: c95 :: c96 :: c97 :: c98 :: c99 :: c100 :: c101 :: c102 :: c103 :: c104 :: c105 :: c106 :: c107 :: c108 :: c109 :: c110 :: c111 :: c112 :: c113 :: .slice ao m cw :: .int .i64 (m : Int) :: u116 :: u117 :: u118 :: u119 :: u120 :: u121 :: u122 :: u123 :: u124 :: u125 :: u126 :: u127 :: u128 :: u129 :: u130 :: u131 :: u132 :: u133 :: u134 :: u135 :: u136 :: u137 :: u138 :: u139 :: u140 :: u141 :: u142 :: u143 :: u144 :: u145 :: u146 :: u147 :: u148 :: u149 :: u150 :: u151 :: u152 :: u153 :: u154 :: u155 :: u156 :: u157 :: u158 :: u159 :: u160 :: u161 :: u162 :: u163 :: u164 :: u165 :: u166 :: u167 :: u168 :: u169 :: u170 :: u171 :: u172 :: u173 :: u174 :: u175 :: u176 :: u177 :: u178 :: u179 :: u180 :: u181 :: u182 :: u183 :: u184 :: u185 :: u186 :: u187 :: u188 :: u189 :: u190 :: u191 :: u192 :: u193 :: u194 :: u195 :: u196 :: u197 :: u198 :: u199 :: u200 :: u201 :: u202 :: u203 :: c204 :: []), []⟩ wx)) :
    Code.wp Try.prog ((Try.f28.body.bind (getLoop 21)).getD .skip) Q ⟨List.toArray (c0 :: c1 :: c2 :: .pointer (some ⟨w.heap.size + 1, 0, none⟩) :: c4 :: c5 :: c6 :: c7 :: c8 :: c9 :: c10 :: c11 :: c12 :: c13 :: c14 :: c15 :: c16 :: c17 :: c18 :: c19 :: c20 :: c21 :: c22 :: c23 :: c24 :: c25 :: c26 :: c27 :: c28 :: c29 :: c30 :: c31 :: c32 :: c33 :: c34 :: c35 :: c36 :: c37 :: c38 :: c39 :: c40 :: c41 :: c42 :: c43 :: c44 :: c45 :: c46 :: c47 :: c48 :: c49 :: c50 :: c51 :: c52 :: c53 :: c54 :: c55 :: c56 :: c57 :: c58 :: c59 :: c60 :: c61 :: c62 :: c63 :: c64 :: c65 :: c66 :: c67 :: c68 :: c69 :: c70 :: c71 :: c72 :: c73 :: c74 :: c75 :: c76 :: c77 :: c78 :: c79 :: c80 :: c81 :: c82 :: c83 :: c84 :: c85 :: c86 :: c87 :: c88 :: c89 :: c90 :: c91 :: c92 :: c93 :: c94 :: c95 :: c96 :: c97 :: c98 :: c99 :: c100 :: c101 :: c102 :: c103 :: c104 :: c105 :: c106 :: c107 :: c108 :: c109 :: c110 :: c111 :: c112 :: c113 :: .slice ao m cw :: .int .i64 (m : Int) :: .int .i64 0 :: c117 :: c118 :: c119 :: c120 :: c121 :: c122 :: c123 :: c124 :: c125 :: c126 :: c127 :: c128 :: c129 :: c130 :: c131 :: c132 :: c133 :: c134 :: c135 :: c136 :: c137 :: c138 :: c139 :: c140 :: c141 :: c142 :: c143 :: c144 :: c145 :: c146 :: c147 :: c148 :: c149 :: c150 :: c151 :: c152 :: c153 :: c154 :: c155 :: c156 :: c157 :: c158 :: c159 :: c160 :: c161 :: c162 :: c163 :: c164 :: c165 :: c166 :: c167 :: c168 :: c169 :: c170 :: c171 :: c172 :: c173 :: c174 :: c175 :: c176 :: c177 :: c178 :: c179 :: c180 :: c181 :: c182 :: c183 :: c184 :: c185 :: c186 :: c187 :: c188 :: c189 :: c190 :: c191 :: c192 :: c193 :: c194 :: c195 :: c196 :: c197 :: c198 :: c199 :: c200 :: c201 :: c202 :: c203 :: c204 :: []), []⟩ wr0 := by
  conv => arg 2; whnf
  go_loopw [116] (fun q wr => ∃ (J : Nat) (sk ag : Nat → Int), J ≤ m ∧ q = .int .i64 J ∧ M2 w wr ss m ao gw cw sh lo tb cp (fun p => .int .u8 (sk p)) ag ∧
      Hid (∀ p, p < 65536 → TabAt sh (Pd sh J 1) (pairOf ss sh) p (sk p)) ∧ Hid (∀ q, q < m → AgAt sh (Pd sh J 1) (pairOf ss sh) (lastOf (ss q)) (ag q)))
    (fun q _ => m - (intOf q).toNat)
  case atStart => exact ⟨0, sk0, ag0, Nat.zero_le _, rfl, h, HT0, HA0⟩
  case round =>
    obtain ⟨J, sk, ag, hJ, rfl, hM, HT, HA⟩ := hrel
    by_cases hlt : J < m
    · obtain ⟨hz1, hz2⟩ := hsz J hlt
      obtain ⟨hk1, hk2⟩ := hM.caps J hlt
      obtain ⟨dd, hdd⟩ : ∃ dd, (ss J).size = dd + sh := ⟨(ss J).size - sh, by omega⟩
      have d0 := hM.w0 hlt
      have d1 := hM.w1 hlt
      have d2 := hM.w2 hlt
      have e1 := hM.c1
      have hao := hM.at0 (by omega)
      have hbs := hM.lt
      rw [hdd] at d0 hk1 hz2
      have HDD := hide hdd
      have HSZ := hide hsz
      have HM := hide hM
      clear hM h hdd hsz hz1
      subst hao
      go_wp2
      refine wp_region_noPanic ?_
      go_region
      refine NoPanic.normal ?_
      have HM2 := hide (((unhide HM).alloc (.cells #[.slice (some ⟨tb J, 0, none⟩) (dd + sh) (cp J), .int .u16 (lastOf (ss J)), .int .u8 (ag J)] 54)).drew)
      clear d0 d1 d2 e1
      go_wp2
      refine loop5 _ _ _ _ _ _ _ _ _ _ _ _ _ _ _ _ _ _ _ _ _ _ _ _ _ _ _ _ _ _ _ _ _ _ _ _ _ _ _ _ _ _ _ _ _ _ _ _ _ _ _ _ _ _ _ _ _ _ _ _ _ _ _ _ _ _ _ _ _ _ _ _ _ _ _ _ _ _ _ _ _ _ _ _ _ _ _ _ _ _ _ _ _ _ _ _ _ _ _ _ _ _ _ _ _ _ _ _ _ _ _ _ _ _ _ _ _ _ _ _ _ _ _ _ _ _ _ _ _ _ _ _ _ _ _ _ _ _ _ _ _ _ _ _ _ _ _ _ _ _ _ _ _ _ _ _ _ _ _ _ _ _ _ _ _ _ _ _ _ _ _ _ _ _ _ _ _ _ _ _ _ _ _ _ _ _ _ _ _ _ _ _ _ _ _ _ _ _ _ _ _ _ w _ ss m _ gw cw sh lo tb cp _ _ J dd _ (unhide HM2) hm hlt (unhide HDD) hs1 hs2 (by omega) HT HA _ (hide ?_)
      intro wx sk' ag' x11 x12 x13 x14 x131 x132 x133 x134 x135 x136 x137 x138 x139 x140 x141 x142 x143 x144 x145 x146 x147 x148 x149 x150 x151 x152 x153 x154 x155 x156 x157 x158 x159 x160 x161 x162 x163 x164 x165 x166 x167 x168 x169 x170 x171 x172 x173 x174 x175 x176 x177 x178 x179 x180 x181 x182 x183 x184 x185 x186 x187 x188 x189 x190 x191 x192 x193 x194 x195 x196 x197 x198 x199 x200 x201 x202 hM5 hT5 hA5
      have HM5 := hide hM5
      have HT5 := hide hT5
      have HA5 := hide hA5
      clear hM5 hT5 hA5
      go_wp2
      go_roundw
      case rel => exact ⟨J + 1, sk', ag', by omega, by go_num, unhide HM5, fun p hp => ((unhide HT5) p hp).cong (Pd_full sh J (by omega)), fun q hq => ((unhide HA5) q hq).cong (Pd_full sh J (by omega))⟩
      case measure => simp [intOf]; omega
    · obtain rfl : J = m := by omega
      have HM := hide hM
      clear hM h
      go_wp2
      exact hQ.out _ sk ag _ _ _ _ _ _ _ _ _ _ _ _ _ _ _ _ _ _ _ _ _ _ _ _ _ _ _ _ _ _ _ _ _ _ _ _ _ _ _ _ _ _ _ _ _ _ _ _ _ _ _ _ _ _ _ _ _ _ _ _ _ _ _ _ _ _ _ _ _ _ _ _ _ _ _ _ _ _ _ _ _ _ _ _ _ _ _ _ _ _ _ _ _ _ (unhide HM) HT.out HA.out
end Go.Proofs.Qxb6601726a
