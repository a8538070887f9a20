import Derived.Test.Qxb6601726aMid
import Derived.Deep.RegionLaw
import Derived.Deep.RegionHeld3
import Derived.Deep.AppendLies
namespace Go.Proofs.Qxb6601726a
open Go.ChangeShapes Go.WideShapes Go.ChangeAt Go.RowKit
set_option linter.unusedVariables false

set_option maxRecDepth 100000 in
set_option maxHeartbeats 4000000 in
/-- 's.words = append(s.words, setWord{..})': whatever the order, one word more. -/
theorem region7 (c0 c1 c2 c4 c6 c7 c8 c9 c10 c11 c12 c13 c14 c15 c16 c17 c18 c19 c20 c21 c22 c23 c24 c25 c26 c27 c28 c29 c30 c31 c32 c33 c34 c35 c36 c37 c38 c39 c40 c41 c42 c43 c44 c45 c46 c47 c48 c49 c50 c51 c52 c53 c54 c55 c56 c57 c58 c59 c60 c61 c62 c63 c64 c65 c66 c67 c68 c69 c70 c71 c72 c73 c74 c75 c76 c77 c78 c79 c80 c81 c82 c83 c84 c85 c86 c87 c88 c89 c90 c91 c92 c93 c94 c95 c96 c97 c98 c99 c100 c101 c102 c103 c104 c105 c106 c107 c108 c109 c110 c111 c112 c113 c114 c115 c116 c117 c118 c119 c120 c121 c122 c123 c124 c125 c126 c127 c128 c129 c130 c131 c132 c133 c134 c135 c136 c137 c138 c139 c140 c141 c142 c143 c144 c145 c146 c147 c148 c149 c150 c151 c152 c153 c154 c155 c156 c157 c158 c159 c160 c161 c162 c163 c164 c165 c166 c167 c168 c169 c170 c171 c172 c173 c174 c175 c176 c177 c178 c179 c180 c181 c182 c183 c184 c185 c186 c187 c188 c189 c190 c191 c192 c193 c194 c195 c196 c197 c198 c199 c200 c201 c202 c203 c204 : Value) (w wr : World) (ss : Nat → ByteArray) (k : Nat) (v : Value) (sh lo : Int) (tb cp : Nat → Nat) (s : ByteArray) (hk : k < 1048576) (HS : Hid (s = ss k)) (hs1 : 2 ≤ s.size) (hs2 : s.size ≤ 64)
    (hmid : Mid w wr ss k v sh lo tb cp) (Q : Exit → Act → World → Prop)
    (hQ : Hid (∀ (wx : World) (v' : Value) (tb' cp' : Nat → Nat) (u33 u34 u35 u36 u37 u38 u39 u40 u41 u42 u43 u44 u45 u46 u47 u48 u49 u50 : Value), Mid w wx ss (k + 1) v' sh lo tb' cp' → Q .normal ⟨List.toArray (c0 :: c1 :: c2 :: .pointer (some ⟨w.heap.size + 1, 0, none⟩) :: c4 :: .string s :: c6 :: c7 :: c8 :: c9 :: c10 :: c11 :: c12 :: c13 :: c14 :: c15 :: c16 :: c17 :: c18 :: c19 :: c20 :: c21 :: c22 :: c23 :: c24 :: c25 :: c26 :: c27 :: c28 :: c29 :: c30 :: c31 :: c32 :: u33 :: u34 :: u35 :: u36 :: u37 :: u38 :: u39 :: u40 :: u41 :: u42 :: u43 :: u44 :: u45 :: u46 :: u47 :: u48 :: u49 :: u50 :: c51 :: c52 :: c53 :: c54 :: c55 :: c56 :: c57 :: c58 :: c59 :: c60 :: c61 :: c62 :: c63 :: c64 :: c65 :: c66 :: c67 :: c68 :: c69 :: c70 :: c71 :: c72 :: c73 :: c74 :: c75 :: c76 :: c77 :: c78 :: c79 :: c80 :: c81 :: c82 :: c83 :: c84 :: c85 :: c86 :: c87 :: c88 :: c89 :: c90 :: c91 :: c92 :: c93 :: c94 :: c95 :: c96 :: c97 :: c98 :: c99 :: c100 :: c101 :: c102 :: c103 :: c104 :: c105 :: c106 :: c107 :: c108 :: c109 :: c110 :: c111 :: c112 :: c113 :: c114 :: c115 :: c116 :: c117 :: c118 :: c119 :: c120 :: c121 :: c122 :: c123 :: c124 :: c125 :: c126 :: c127 :: c128 :: c129 :: c130 :: c131 :: c132 :: c133 :: c134 :: c135 :: c136 :: c137 :: c138 :: c139 :: c140 :: c141 :: c142 :: c143 :: c144 :: c145 :: c146 :: c147 :: c148 :: c149 :: c150 :: c151 :: c152 :: c153 :: c154 :: c155 :: c156 :: c157 :: c158 :: c159 :: c160 :: c161 :: c162 :: c163 :: c164 :: c165 :: c166 :: c167 :: c168 :: c169 :: c170 :: c171 :: c172 :: c173 :: c174 :: c175 :: c176 :: c177 :: c178 :: c179 :: c180 :: c181 :: c182 :: c183 :: c184 :: c185 :: c186 :: c187 :: c188 :: c189 :: c190 :: c191 :: c192 :: c193 :: c194 :: c195 :: c196 :: c197 :: c198 :: c199 :: c200 :: c201 :: c202 :: c203 :: c204 :: []), []⟩ wx)) :
    Code.wp Try.prog ((Try.f28.body.bind (getRegion 7)).getD .skip) Q ⟨List.toArray (c0 :: c1 :: c2 :: .pointer (some ⟨w.heap.size + 1, 0, none⟩) :: c4 :: .string s :: c6 :: c7 :: c8 :: c9 :: c10 :: c11 :: c12 :: c13 :: c14 :: c15 :: c16 :: c17 :: c18 :: c19 :: c20 :: c21 :: c22 :: c23 :: c24 :: c25 :: c26 :: c27 :: c28 :: c29 :: c30 :: c31 :: c32 :: c33 :: c34 :: c35 :: c36 :: c37 :: c38 :: c39 :: c40 :: c41 :: c42 :: c43 :: c44 :: c45 :: c46 :: c47 :: c48 :: c49 :: c50 :: c51 :: c52 :: c53 :: c54 :: c55 :: c56 :: c57 :: c58 :: c59 :: c60 :: c61 :: c62 :: c63 :: c64 :: c65 :: c66 :: c67 :: c68 :: c69 :: c70 :: c71 :: c72 :: c73 :: c74 :: c75 :: c76 :: c77 :: c78 :: c79 :: c80 :: c81 :: c82 :: c83 :: c84 :: c85 :: c86 :: c87 :: c88 :: c89 :: c90 :: c91 :: c92 :: c93 :: c94 :: c95 :: c96 :: c97 :: c98 :: c99 :: c100 :: c101 :: c102 :: c103 :: c104 :: c105 :: c106 :: c107 :: c108 :: c109 :: c110 :: c111 :: c112 :: c113 :: c114 :: c115 :: c116 :: c117 :: c118 :: c119 :: c120 :: c121 :: c122 :: c123 :: c124 :: c125 :: c126 :: c127 :: c128 :: c129 :: c130 :: c131 :: c132 :: c133 :: c134 :: c135 :: c136 :: c137 :: c138 :: c139 :: c140 :: c141 :: c142 :: c143 :: c144 :: c145 :: c146 :: c147 :: c148 :: c149 :: c150 :: c151 :: c152 :: c153 :: c154 :: c155 :: c156 :: c157 :: c158 :: c159 :: c160 :: c161 :: c162 :: c163 :: c164 :: c165 :: c166 :: c167 :: c168 :: c169 :: c170 :: c171 :: c172 :: c173 :: c174 :: c175 :: c176 :: c177 :: c178 :: c179 :: c180 :: c181 :: c182 :: c183 :: c184 :: c185 :: c186 :: c187 :: c188 :: c189 :: c190 :: c191 :: c192 :: c193 :: c194 :: c195 :: c196 :: c197 :: c198 :: c199 :: c200 :: c201 :: c202 :: c203 :: c204 :: []), []⟩ wr := by
  conv => arg 2; whnf
  obtain ⟨i0, hi, hz0, hz1, hz2⟩ := info_parts Try.info54
  have hcv := run_bytes
  have hwr : IntKind.i64.wrap ((s.size : Int) - 1) = (s.size : Int) - 1 := by simp [IntKind.wrap, IntKind.bits, IntKind.signed]; omega
  have c0 := cell_of_row _ _ 0 _ _ _ hmid.strc
  simp at c0
  have f0 := frozen_of_row _ _ 0 _ _ hmid.strc
  have hown := hmid.row
  have hne : v.ownBlock ≠ some (w.heap.size + 1) := fun e => by have := (hown.lt _ e).1; omega
  have hbs := hmid.lt
  have hbs' : w.heap.size < wr.heap.size := by omega
  have hbs2 : w.heap.size + 1 < wr.heap.size + 2 := by omega
  have hbs3 : w.heap.size < wr.heap.size + 1 := by omega
  have HM := hide hmid
  clear hmid
  refine wp_region_noPanic ?_
  go_region_law (first
    | (refine step_append_lies _ (by rfl) _ _ _ (by rfl) (w.heap.size + 2) 54 i0 _ 3 32 Try.underlying48 hi hz0 hz1 hz2 rfl (by omega) v k (wl ss tb cp k) (by rfl) (by exact own3 hown rfl) ⟨wr.heap.size + 2, 0, none⟩ 1 1 [_, _, _] (by rfl) (by rfl) (by exact World.news_of_block (B := wr.heap.size + 2) (cs := #[_, _, _]) (t := 54) (fr := (0, 0)) (at3 (H := wr.heap) rfl)) (by simp [Value.oneCell']) (by omega) (by unfold maxLen; omega) (by omega) (by exact le3 (H := wr.heap) rfl (by omega)) (wr.heap.size + 3) (by exact size3 (H := wr.heap) rfl) ?_; intro gg cap2 w1 hown1 hgrow hat hlt2; have hf1 := (hgrow.frozen_far ⟨w.heap.size + 1, 0, none⟩ (lt3 (H := wr.heap) rfl hbs) (Ne.symm hne)).trans ((World.frozen?_of_block (old3 (W := wr) rfl hbs)).trans f0); have hc1 := (hgrow.cell_far ⟨w.heap.size + 1, 0, none⟩ (lt3 (H := wr.heap) rfl hbs) (Ne.symm hne)).trans ((World.cell?_of_block (old3 (W := wr) rfl hbs)).trans c0))
    | (go_simp; go_at_call 31; refine (pair_str s _ _ _ _ rfl hs1 hs2 ?_).mono ?_; (first | exact ⟨_, at2n (H := wr.heap) rfl⟩ | exact ⟨_, at2o (H := wr.heap) rfl⟩ | exact ⟨_, at1 (H := wr.heap) rfl⟩); rintro e w' ⟨rfl, nq, rfl⟩))
  all_goals
    refine NoPanic.normal ?_
    first
      | exact hQ.out _ _ _ _ _ _ _ _ _ _ _ _ _ _ _ _ _ _ _ _ _ _ (mid_push (unhide HM) hgrow hown1 rfl rfl rfl rfl HS.out (Nat.le_refl _) (at3a (H := wr.heap) rfl) (bcap_ok _ _ hs2))
      | exact hQ.out _ _ _ _ _ _ _ _ _ _ _ _ _ _ _ _ _ _ _ _ _ _ (mid_push (unhide HM) hgrow hown1 rfl rfl rfl rfl HS.out (Nat.le_succ _) (at3b (H := wr.heap) rfl) (bcap_ok _ _ hs2))
end Go.Proofs.Qxb6601726a
