import Derived.Test.Qxb6601726aLoop6
namespace Go.Proofs.Qxb6601726a
open Go.ChangeShapes Go.WideShapes Go.ChangeAt Go.RowKit
set_option linter.unusedVariables false

theorem tab_all {ss : Nat → ByteArray} {sh J I : Nat} {sk : Nat → Int} {P d : Int} (h : ∀ p, p < 65536 → TabAt sh (Pd sh J I) (pairOf ss sh) p (sk p)) (h1 : 1 ≤ I) (hI : I < sh) (hP0 : 0 ≤ P) (hP : P = pairOf ss sh J I) (hd : d = (sh : Int) - 1 - I) :
    ∀ p, p < 65536 → TabAt sh (Pd sh J (I + 1)) (pairOf ss sh) p (if p = P.toNat then min (sk p) d else sk p) := by
  intro p hp
  by_cases e : p = P.toNat
  · rw [if_pos e, hd]
    exact (h p hp).hit h1 hI (by rw [← hP, e]; omega)
  · rw [if_neg e]
    exact (h p hp).miss h1 (by rw [← hP]; omega)

theorem ag_all {ss : Nat → ByteArray} {sh J I m : Nat} {ag : Nat → Int} {P d : Int} (h : ∀ q, q < m → AgAt sh (Pd sh J I) (pairOf ss sh) (lastOf (ss q)) (ag q)) (h1 : 1 ≤ I) (hP : P = pairOf ss sh J I) (hd : d = (sh : Int) - 1 - I) :
    ∀ q, q < m → AgAt sh (Pd sh J (I + 1)) (pairOf ss sh) (lastOf (ss q)) (agF ss P d ag q) := by
  intro q hq
  unfold agF
  by_cases e : 0 < d ∧ lastOf (ss q) = P
  · rw [if_pos e, hd]
    exact (h q hq).hit h1 (by omega) (by rw [← hP, e.2])
  · rw [if_neg e]
    refine (h q hq).miss h1 ?_
    by_cases e2 : 0 < d
    · exact .inl (fun hc => e ⟨e2, by rw [← hc, hP]⟩)
    · exact .inr (by omega)

set_option maxRecDepth 100000 in
set_option maxHeartbeats 4000000 in
theorem loop5 (c0 c1 c2 c4 c5 c6 c7 c8 c9 c12 c13 c14 c15 c16 c17 c18 c19 c20 c21 c22 c23 c24 c25 c26 c27 c28 c29 c30 c31 c32 c33 c34 c35 c36 c37 c38 c39 c40 c41 c42 c43 c44 c45 c46 c47 c48 c49 c50 c51 c52 c53 c54 c55 c56 c57 c58 c59 c60 c61 c62 c63 c64 c65 c66 c67 c68 c69 c70 c71 c72 c73 c74 c75 c76 c77 c78 c79 c80 c81 c82 c83 c84 c85 c86 c87 c88 c89 c90 c91 c92 c93 c94 c95 c96 c97 c98 c99 c100 c101 c102 c103 c104 c105 c106 c107 c108 c109 c110 c111 c112 c113 c114 c115 c116 c117 c118 c119 c120 c121 c122 c123 c124 c125 c126 c127 c128 c129 c130 c131 c132 c133 c134 c135 c136 c137 c138 c139 c140 c141 c142 c143 c144 c145 c146 c147 c148 c149 c150 c151 c152 c153 c154 c155 c156 c157 c158 c159 c160 c161 c162 c163 c164 c165 c166 c167 c168 c169 c170 c171 c172 c173 c174 c175 c176 c177 c178 c179 c180 c181 c182 c183 c184 c185 c186 c187 c188 c189 c190 c191 c192 c193 c194 c195 c196 c197 c198 c199 c200 c201 c202 c203 c204 : Value) (w wr0 : World) (ss : Nat → ByteArray) (m : Nat) (ao : Option Addr) (gw cw sh : Nat) (lo : Int) (tb cp : Nat → Nat) (sk0 : Nat → Int) (ag0 : Nat → Int) (J dd ce : Nat) (h : M2 w wr0 ss m ao gw cw sh lo tb cp (fun p => .int .u8 (sk0 p)) ag0) (hm : m ≤ 1048576) (hJ : J < m) (hsz : (ss J).size = dd + sh) (hs1 : 2 ≤ sh) (hs2 : sh ≤ 64) (hdd : dd ≤ 64)
    (HT0 : Hid (∀ p, p < 65536 → TabAt sh (Pd sh J 1) (pairOf ss sh) p (sk0 p))) (HA0 : Hid (∀ q, q < m → AgAt sh (Pd sh J 1) (pairOf ss sh) (lastOf (ss q)) (ag0 q))) (Q : Exit → Act → World → Prop)
    (hQ : Hid (∀ (wx : World) (sk ag : Nat → Int) (u11 u12 u13 u14 u131 u132 u133 u134 u135 u136 u137 u138 u139 u140 u141 u142 u143 u144 u145 u146 u147 u148 u149 u150 u151 u152 u153 u154 u155 u156 u157 u158 u159 u160 u161 u162 u163 u164 u165 u166 u167 u168 u169 u170 u171 u172 u173 u174 u175 u176 u177 u178 u179 u180 u181 u182 u183 u184 u185 u186 u187 u188 u189 u190 u191 u192 u193 u194 u195 u196 u197 u198 u199 u200 u201 u202 : Value), M2 w wx ss m ao gw cw sh lo tb cp (fun p => .int .u8 (sk p)) ag → (∀ p, p < 65536 → TabAt sh (Pd sh J sh) (pairOf ss sh) p (sk p)) → (∀ q, q < m → AgAt sh (Pd sh J sh) (pairOf ss sh) (lastOf (ss q)) (ag q)) →
      Q (.exit 8) ⟨List.toArray (c0 :: c1 :: c2 :: .pointer (some ⟨w.heap.size + 1, 0, none⟩) :: c4 :: c5 :: c6 :: c7 :: c8 :: c9 :: .slice (some ⟨tb J, dd, none⟩) sh ce :: u11 :: u12 :: u13 :: u14 :: c15 :: c16 :: c17 :: c18 :: c19 :: c20 :: c21 :: c22 :: c23 :: c24 :: c25 :: c26 :: c27 :: c28 :: c29 :: c30 :: c31 :: c32 :: c33 :: c34 :: c35 :: c36 :: c37 :: c38 :: c39 :: c40 :: c41 :: c42 :: c43 :: c44 :: c45 :: c46 :: c47 :: c48 :: c49 :: c50 :: c51 :: c52 :: c53 :: c54 :: c55 :: c56 :: c57 :: c58 :: c59 :: c60 :: c61 :: c62 :: c63 :: c64 :: c65 :: c66 :: c67 :: c68 :: c69 :: c70 :: c71 :: c72 :: c73 :: c74 :: c75 :: c76 :: c77 :: c78 :: c79 :: c80 :: c81 :: c82 :: c83 :: c84 :: c85 :: c86 :: c87 :: c88 :: c89 :: c90 :: c91 :: c92 :: c93 :: c94 :: c95 :: c96 :: c97 :: c98 :: c99 :: c100 :: c101 :: c102 :: c103 :: c104 :: c105 :: c106 :: c107 :: c108 :: c109 :: c110 :: c111 :: c112 :: c113 :: c114 :: c115 :: c116 :: c117 :: c118 :: c119 :: c120 :: c121 :: c122 :: c123 :: c124 :: c125 :: c126 :: c127 :: c128 :: c129 :: c130 :: u131 :: u132 :: u133 :: u134 :: u135 :: u136 :: u137 :: u138 :: u139 :: u140 :: u141 :: u142 :: u143 :: u144 :: u145 :: u146 :: u147 :: u148 :: u149 :: u150 :: u151 :: u152 :: u153 :: u154 :: u155 :: u156 :: u157 :: u158 :: u159 :: u160 :: u161 :: u162 :: u163 :: u164 :: u165 :: u166 :: u167 :: u168 :: u169 :: u170 :: u171 :: u172 :: u173 :: u174 :: u175 :: u176 :: u177 :: u178 :: u179 :: u180 :: u181 :: u182 :: u183 :: u184 :: u185 :: u186 :: u187 :: u188 :: u189 :: u190 :: u191 :: u192 :: u193 :: u194 :: u195 :: u196 :: u197 :: u198 :: u199 :: u200 :: u201 :: u202 :: c203 :: c204 :: []), []⟩ wx)) :
    Code.wp Try.prog ((Try.f28.body.bind (getLoop 25)).getD .skip) Q ⟨List.toArray (c0 :: c1 :: c2 :: .pointer (some ⟨w.heap.size + 1, 0, none⟩) :: c4 :: c5 :: c6 :: c7 :: c8 :: c9 :: .slice (some ⟨tb J, dd, none⟩) sh ce :: .int .i64 1 :: c12 :: c13 :: c14 :: c15 :: c16 :: c17 :: c18 :: c19 :: c20 :: c21 :: c22 :: c23 :: c24 :: c25 :: c26 :: c27 :: c28 :: c29 :: c30 :: c31 :: c32 :: c33 :: c34 :: c35 :: c36 :: c37 :: c38 :: c39 :: c40 :: c41 :: c42 :: c43 :: c44 :: c45 :: c46 :: c47 :: c48 :: c49 :: c50 :: c51 :: c52 :: c53 :: c54 :: c55 :: c56 :: c57 :: c58 :: c59 :: c60 :: c61 :: c62 :: c63 :: c64 :: c65 :: c66 :: c67 :: c68 :: c69 :: c70 :: c71 :: c72 :: c73 :: c74 :: c75 :: c76 :: c77 :: c78 :: c79 :: c80 :: c81 :: c82 :: c83 :: c84 :: c85 :: c86 :: c87 :: c88 :: c89 :: c90 :: c91 :: c92 :: c93 :: c94 :: c95 :: c96 :: c97 :: c98 :: c99 :: c100 :: c101 :: c102 :: c103 :: c104 :: c105 :: c106 :: c107 :: c108 :: c109 :: c110 :: c111 :: c112 :: c113 :: c114 :: c115 :: c116 :: c117 :: c118 :: c119 :: c120 :: c121 :: c122 :: c123 :: c124 :: c125 :: c126 :: c127 :: c128 :: c129 :: c130 :: c131 :: c132 :: c133 :: c134 :: c135 :: c136 :: c137 :: c138 :: c139 :: c140 :: c141 :: c142 :: c143 :: c144 :: c145 :: c146 :: c147 :: c148 :: c149 :: c150 :: c151 :: c152 :: c153 :: c154 :: c155 :: c156 :: c157 :: c158 :: c159 :: c160 :: c161 :: c162 :: c163 :: c164 :: c165 :: c166 :: c167 :: c168 :: c169 :: c170 :: c171 :: c172 :: c173 :: c174 :: c175 :: c176 :: c177 :: c178 :: c179 :: c180 :: c181 :: c182 :: c183 :: c184 :: c185 :: c186 :: c187 :: c188 :: c189 :: c190 :: c191 :: c192 :: c193 :: c194 :: c195 :: c196 :: c197 :: c198 :: c199 :: c200 :: c201 :: c202 :: c203 :: c204 :: []), []⟩ wr0 := by
  conv => arg 2; whnf
  have HSZ := hide hsz
  clear hsz
  go_loopw [11] (fun q wr => ∃ (I : Nat) (sk ag : Nat → Int), 1 ≤ I ∧ I ≤ sh ∧ q = .int .i64 I ∧ M2 w wr ss m ao gw cw sh lo tb cp (fun p => .int .u8 (sk p)) ag ∧
      Hid (∀ p, p < 65536 → TabAt sh (Pd sh J I) (pairOf ss sh) p (sk p)) ∧ Hid (∀ q, q < m → AgAt sh (Pd sh J I) (pairOf ss sh) (lastOf (ss q)) (ag q)))
    (fun q _ => sh - (intOf q).toNat)
  case atStart => exact ⟨1, sk0, ag0, Nat.le_refl _, by omega, rfl, h, HT0, HA0⟩
  case round =>
    obtain ⟨I, sk, ag, hI1, hI2, rfl, hM, HT, HA⟩ := hrel
    by_cases hlt : I < sh
    · obtain ⟨i, rfl⟩ : ∃ i, I = i + 1 := ⟨I - 1, by omega⟩
      have b1 := hM.bytes (i := dd + i) hJ (by rw [unhide HSZ]; omega)
      have b2 := hM.bytes (i := dd + (i + 1)) hJ (by rw [unhide HSZ]; omega)
      have HM := hide hM
      clear hM h
      go_wp2_with fail
      refine (pairAt_any (tb J) dd sh ce _ i (bt (ss J) (dd + i)) (bt (ss J) (dd + (i + 1))) _ (by simp) (by omega) (by omega) b1 b2 (bt_bounds _ _).1 (bt_bounds _ _).2 (bt_bounds _ _).1 (bt_bounds _ _).2).mono ?_
      rintro e w1 ⟨rfl, nq, rfl⟩
      obtain ⟨hp0, hp1⟩ := pr_bounds (bt (ss J) (dd + i)) (bt (ss J) (dd + (i + 1))) (bt_bounds _ _).1 (bt_bounds _ _).2 (bt_bounds _ _).1 (bt_bounds _ _).2
      have hpq : pr (bt (ss J) (dd + i)) (bt (ss J) (dd + (i + 1))) = pairOf ss sh J (i + 1) := by
        unfold pairOf
        rw [unhide HSZ, show dd + sh - sh = dd by omega, show i + 1 - 1 = i by omega]
      have HPQ := hide hpq
      clear hpq b1 b2
      generalize pr (bt (ss J) (dd + i)) (bt (ss J) (dd + (i + 1))) = P at *
      have d3 := (unhide HM).c3
      have dt := (unhide HM).table.cell (j := P.toNat) (by omega)
      have df := (unhide HM).table.free P.toNat
      obtain ⟨d, hd⟩ : ∃ d : Int, d = (sh : Int) - 1 - ((i : Int) + 1) := ⟨_, rfl⟩
      have hd0 : 0 ≤ d := by omega
      have hd1 : d ≤ 255 := by omega
      go_wp2
      rw [← hd]
      have HD := hide hd
      clear hd
      refine wp_region_noPanic ?_
      go_region
      refine NoPanic.normal ?_
      have HM2 := hide (((unhide HM).drewN (nq + 1)).setTab P.toNat (.int .u8 (min (sk P.toNat) d)))
      have e0 := (unhide HM2).c0
      clear d3 dt df
      go_wp2
      refine loop6 _ _ _ _ _ _ _ _ _ _ _ _ _ _ _ _ _ _ _ _ _ _ _ _ _ _ _ _ _ _ _ _ _ _ _ _ _ _ _ _ _ _ _ _ _ _ _ _ _ _ _ _ _ _ _ _ _ _ _ _ _ _ _ _ _ _ _ _ _ _ _ _ _ _ _ _ _ _ _ _ _ _ _ _ _ _ _ _ _ _ _ _ _ _ _ _ _ _ _ _ _ _ _ _ _ _ _ _ _ _ _ _ _ _ _ _ _ _ _ _ _ _ _ _ _ _ _ _ _ _ _ _ _ _ _ _ _ _ _ _ _ _ _ _ _ _ _ _ _ _ _ _ _ _ _ _ _ _ _ _ _ _ _ _ _ _ _ _ _ _ _ _ _ _ _ _ _ _ _ _ _ _ _ _ _ _ _ _ _ _ _ _ _ _ _ _ _ _ _ _ w _ ss m ao gw cw sh lo tb cp _ _ P d (unhide HM2) hm hd0 hd1 _ (hide ?_)
      intro wx x14 x168 x169 x170 x171 x172 x173 x174 x175 x176 x177 x178 x179 x180 x181 x182 x183 x184 x185 x186 x187 x188 x189 x190 x191 x192 x193 x194 x195 x196 x197 x198 x199 x200 x201 x202 hM6
      have HM6 := hide (hM6.tcong (tv' := fun p => .int .u8 (if p = P.toNat then min (sk p) d else sk p)) (fun p hp => by
        by_cases e : p = P.toNat
        · subst e; simp
        · simp [e]))
      clear hM6 e0
      go_wp2
      go_roundw
      case rel =>
        refine ⟨i + 1 + 1, _, _, by omega, by omega, by go_num, unhide HM6, ?_, ?_⟩
        · exact tab_all HT.out (by omega) hlt hp0 (unhide HPQ) (by rw [unhide HD]; omega)
        · exact ag_all HA.out (by omega) (unhide HPQ) (by rw [unhide HD]; omega)
      case measure => simp [intOf]; omega
    · obtain rfl : I = sh := by omega
      have HM := hide hM
      clear hM h
      go_wp2
      exact hQ.out _ sk ag _ _ _ _ _ _ _ _ _ _ _ _ _ _ _ _ _ _ _ _ _ _ _ _ _ _ _ _ _ _ _ _ _ _ _ _ _ _ _ _ _ _ _ _ _ _ _ _ _ _ _ _ _ _ _ _ _ _ _ _ _ _ _ _ _ _ _ _ _ _ _ _ _ _ _ _ (unhide HM) HT.out HA.out
end Go.Proofs.Qxb6601726a
