/-
  Seat b5798a: finding a part of the program by its number; region 24 (kids[p] = append(kids[p], i)). By an AI agent.
-/
import Derived.Test.YbulkdpbaRHead
namespace Go.Proofs.YbulkdpbaR
open Go.RowKit

def findRegion (n : Nat) : Code → Option Code
  | .region id ops d => if id = n then some (.region id ops d) else none
  | .seq a b => match findRegion n a with
    | some c => some c
    | none => findRegion n b
  | .cond _ a b => match findRegion n a with
    | some c => some c
    | none => findRegion n b
  | .block _ c => findRegion n c
  | .loop c => findRegion n c
  | .scope c => findRegion n c
  | _ => none

def headRegion : Code → Option Nat
  | .region id _ _ => some id
  | .seq a _ => headRegion a
  | .block _ c => headRegion c
  | .scope c => headRegion c
  | _ => none

/-- The loop whose body begins with region n. -/
def findLoop (n : Nat) : Code → Option Code
  | .loop c => if headRegion c = some n then some (.loop c) else findLoop n c
  | .seq a b => match findLoop n a with
    | some c => some c
    | none => findLoop n b
  | .cond _ a b => match findLoop n a with
    | some c => some c
    | none => findLoop n b
  | .block _ c => findLoop n c
  | .scope c => findLoop n c
  | _ => none

set_option maxRecDepth 100000 in
set_option maxHeartbeats 1000000 in
theorem reg24 {w W : World} {m0 m1 bm : Nat} {tb : Nat → Nat} {B len k p : Nat} {F : Nat → Nat → Value} {nb : Nat → Nat} {nf : Nat → Nat → Value} {K N M P : Nat → Int} (Q : Exit → Act → World → Prop) {c : Code} (hc : (findRegion 24 (Yba.f3.body.getD .skip)).getD .skip = c)
    (hl : len ≤ 1024) (hk : k < len) (hpk : p ≤ k) (hst : St w W m0 m1 bm tb B (len + 1) (k + 2) F nb nf (chF P (k + 1)) (chF P k)) (htab : Tabs K N M m0 m1 (k + 1) F nb nf) (hpe : p = parF P (k + 1))
    (c0 c1 c2 c3 c4 c5 c6 c7 c8 c9 c10 c11 c12 c14 c15 c18 c19 c20 c21 c22 c23 c24 c25 c26 c27 c28 c29 c30 c31 c32 c33 c34 c35 c36 c37 c38 c39 c40 c41 c42 c43 c44 c45 c46 c47 c48 c49 c50 c51 c52 c53 c54 c55 c56 c57 c58 c59 c60 c61 c62 c63 c64 c65 c66 c67 c68 c69 c70 c71 c72 c73 c74 c75 c76 c77 c78 c79 c80 c81 c82 c83 c84 c85 c86 c87 c88 c89 c90 c91 c92 c93 c94 c95 c96 c97 c98 c99 c100 c101 c102 c103 c104 c105 c106 c107 c108 c109 c110 c111 c112 c113 c114 c115 c116 c117 c118 c119 c120 c121 c122 c123 c124 c125 c126 c127 c128 c129 c130 c131 c132 c133 c134 c135 c136 c137 c138 c139 c140 c141 c142 c143 c144 c145 c146 c147 c148 c149 c150 c151 c152 c153 c154 c155 c156 c157 c158 c159 c160 c161 c162 c163 c164 c165 c166 c167 c168 c169 c170 c171 c172 c173 c174 c175 c176 c177 c178 c179 c180 c181 c182 c183 c184 c185 c186 c187 c188 c189 c190 c191 c192 c193 c194 c195 c196 c197 c198 c199 c200 c201 c202 c203 c204 c205 c206 c207 c208 c209 c210 c211 c212 c213 c214 c215 c216 c217 c218 c219 c220 c221 c222 c223 c224 c225 c226 c227 c228 c229 c230 c231 c232 c233 c234 c235 c236 c237 c238 c239 c240 c241 c242 c243 c244 c245 c246 c247 c248 c249 c250 c251 c252 c253 c254 c255 c256 c257 c258 c259 c260 c261 c262 c263 c264 c265 c266 c267 c268 : Value)
    (hQ : ∀ F' v139 v140 v142 v143 w', St w w' m0 m1 bm tb B (len + 1) (k + 2) F' nb nf (chF P (k + 1)) (chF P (k + 1)) → Tabs K N M m0 m1 (k + 1) F' nb nf → Q .normal ⟨(List.toArray (c0 :: c1 :: c2 :: c3 :: c4 :: c5 :: c6 :: c7 :: c8 :: c9 :: c10 :: c11 :: c12 :: (.slice (some ⟨tb 4, 0, none⟩) (len + 1) (len + 1)) :: c14 :: c15 :: (.int .i64 ((k : Int) + 1)) :: (.int .i64 (p : Int)) :: c18 :: c19 :: c20 :: c21 :: c22 :: c23 :: c24 :: c25 :: c26 :: c27 :: c28 :: c29 :: c30 :: c31 :: c32 :: c33 :: c34 :: c35 :: c36 :: c37 :: c38 :: c39 :: c40 :: c41 :: c42 :: c43 :: c44 :: c45 :: c46 :: c47 :: c48 :: c49 :: c50 :: c51 :: c52 :: c53 :: c54 :: c55 :: c56 :: c57 :: c58 :: c59 :: c60 :: c61 :: c62 :: c63 :: c64 :: c65 :: c66 :: c67 :: c68 :: c69 :: c70 :: c71 :: c72 :: c73 :: c74 :: c75 :: c76 :: c77 :: c78 :: c79 :: c80 :: c81 :: c82 :: c83 :: c84 :: c85 :: c86 :: c87 :: c88 :: c89 :: c90 :: c91 :: c92 :: c93 :: c94 :: c95 :: c96 :: c97 :: c98 :: c99 :: c100 :: c101 :: c102 :: c103 :: c104 :: c105 :: c106 :: c107 :: c108 :: c109 :: c110 :: c111 :: c112 :: c113 :: c114 :: c115 :: c116 :: c117 :: c118 :: c119 :: c120 :: c121 :: c122 :: c123 :: c124 :: c125 :: c126 :: c127 :: c128 :: c129 :: c130 :: c131 :: c132 :: c133 :: c134 :: (.slice (some ⟨tb 4, 0, none⟩) (len + 1) (len + 1)) :: (.int .i64 (p : Int)) :: (.slice (some ⟨tb 4, 0, none⟩) (len + 1) (len + 1)) :: (.int .i64 (p : Int)) :: v139 :: v140 :: (.int .i64 ((k : Int) + 1)) :: v142 :: v143 :: (.pointer (some ⟨tb 4, p, none⟩)) :: c145 :: c146 :: c147 :: c148 :: c149 :: c150 :: c151 :: c152 :: c153 :: c154 :: c155 :: c156 :: c157 :: c158 :: c159 :: c160 :: c161 :: c162 :: c163 :: c164 :: c165 :: c166 :: c167 :: c168 :: c169 :: c170 :: c171 :: c172 :: c173 :: c174 :: c175 :: c176 :: c177 :: c178 :: c179 :: c180 :: c181 :: c182 :: c183 :: c184 :: c185 :: c186 :: c187 :: c188 :: c189 :: c190 :: c191 :: c192 :: c193 :: c194 :: c195 :: c196 :: c197 :: c198 :: c199 :: c200 :: c201 :: c202 :: c203 :: c204 :: c205 :: c206 :: c207 :: c208 :: c209 :: c210 :: c211 :: c212 :: c213 :: c214 :: c215 :: c216 :: c217 :: c218 :: c219 :: c220 :: c221 :: c222 :: c223 :: c224 :: c225 :: c226 :: c227 :: c228 :: c229 :: c230 :: c231 :: c232 :: c233 :: c234 :: c235 :: c236 :: c237 :: c238 :: c239 :: c240 :: c241 :: c242 :: c243 :: c244 :: c245 :: c246 :: c247 :: c248 :: c249 :: c250 :: c251 :: c252 :: c253 :: c254 :: c255 :: c256 :: c257 :: c258 :: c259 :: c260 :: c261 :: c262 :: c263 :: c264 :: c265 :: c266 :: c267 :: c268 :: [])), []⟩ w') :
    Code.wp Yba.prog c Q ⟨(List.toArray (c0 :: c1 :: c2 :: c3 :: c4 :: c5 :: c6 :: c7 :: c8 :: c9 :: c10 :: c11 :: c12 :: (.slice (some ⟨tb 4, 0, none⟩) (len + 1) (len + 1)) :: c14 :: c15 :: (.int .i64 ((k : Int) + 1)) :: (.int .i64 (p : Int)) :: c18 :: c19 :: c20 :: c21 :: c22 :: c23 :: c24 :: c25 :: c26 :: c27 :: c28 :: c29 :: c30 :: c31 :: c32 :: c33 :: c34 :: c35 :: c36 :: c37 :: c38 :: c39 :: c40 :: c41 :: c42 :: c43 :: c44 :: c45 :: c46 :: c47 :: c48 :: c49 :: c50 :: c51 :: c52 :: c53 :: c54 :: c55 :: c56 :: c57 :: c58 :: c59 :: c60 :: c61 :: c62 :: c63 :: c64 :: c65 :: c66 :: c67 :: c68 :: c69 :: c70 :: c71 :: c72 :: c73 :: c74 :: c75 :: c76 :: c77 :: c78 :: c79 :: c80 :: c81 :: c82 :: c83 :: c84 :: c85 :: c86 :: c87 :: c88 :: c89 :: c90 :: c91 :: c92 :: c93 :: c94 :: c95 :: c96 :: c97 :: c98 :: c99 :: c100 :: c101 :: c102 :: c103 :: c104 :: c105 :: c106 :: c107 :: c108 :: c109 :: c110 :: c111 :: c112 :: c113 :: c114 :: c115 :: c116 :: c117 :: c118 :: c119 :: c120 :: c121 :: c122 :: c123 :: c124 :: c125 :: c126 :: c127 :: c128 :: c129 :: c130 :: c131 :: c132 :: c133 :: c134 :: c135 :: c136 :: c137 :: c138 :: c139 :: c140 :: c141 :: c142 :: c143 :: c144 :: c145 :: c146 :: c147 :: c148 :: c149 :: c150 :: c151 :: c152 :: c153 :: c154 :: c155 :: c156 :: c157 :: c158 :: c159 :: c160 :: c161 :: c162 :: c163 :: c164 :: c165 :: c166 :: c167 :: c168 :: c169 :: c170 :: c171 :: c172 :: c173 :: c174 :: c175 :: c176 :: c177 :: c178 :: c179 :: c180 :: c181 :: c182 :: c183 :: c184 :: c185 :: c186 :: c187 :: c188 :: c189 :: c190 :: c191 :: c192 :: c193 :: c194 :: c195 :: c196 :: c197 :: c198 :: c199 :: c200 :: c201 :: c202 :: c203 :: c204 :: c205 :: c206 :: c207 :: c208 :: c209 :: c210 :: c211 :: c212 :: c213 :: c214 :: c215 :: c216 :: c217 :: c218 :: c219 :: c220 :: c221 :: c222 :: c223 :: c224 :: c225 :: c226 :: c227 :: c228 :: c229 :: c230 :: c231 :: c232 :: c233 :: c234 :: c235 :: c236 :: c237 :: c238 :: c239 :: c240 :: c241 :: c242 :: c243 :: c244 :: c245 :: c246 :: c247 :: c248 :: c249 :: c250 :: c251 :: c252 :: c253 :: c254 :: c255 :: c256 :: c257 :: c258 :: c259 :: c260 :: c261 :: c262 :: c263 :: c264 :: c265 :: c266 :: c267 :: c268 :: [])), []⟩ W := by
  subst hc
  conv => arg 2; whnf
  have y0 := hst.cellT 4 (by omega) p (by omega)
  have hown := hst.ok p (by omega)
  have hfw := chF_few P k p
  obtain ⟨i0, hi0, hz0, hz1, hz2⟩ := info_parts Yba.info3
  have HS := hide hst
  have HT := hide htab
  have HQ := hide hQ
  have HP := hide hpe
  have hsz := hst.size
  have i1 : (p : Int) < (len : Int) + 1 := by omega
  clear hst htab hQ hpe
  go_wp2_with (at_builtin; refine wpList_append_lies _ rfl _ _ 34 rfl B 3 i0 (.int .i64 0) 1 8 Yba.underlying34 hi0 hz0 hz1 hz2 rfl (by decide) _ _ _ rfl (hown.alloc _) ⟨W.heap.size, 0, none⟩ 1 1 [.int .i64 ((k + 1 : Nat) : Int)] rfl rfl ?d1 ?d2 (by decide) ?d3 ?d4 ?d5 _ rfl ?_)
  case d1 => rw [show (((k + 1 : Nat) : Int)) = (k : Int) + 1 from by omega]; exact cell_one_new _ _ _
  case d2 => intro u hu; simp at hu; subst hu; rfl
  case d3 => unfold maxLen; omega
  case d4 => omega
  case d5 => simp; omega
  intro g cap w1 hown1 hgrow hat hlt
  have s1 := HS.out.alloc (.cells #[.int .i64 ((k : Int) + 1)] 3)
  have hne : some (tb 4) ≠ (F 4 p).ownBlock := fun e => by have := (hown.lt _ e.symm).1; have := (HS.out.lo3 4 (by omega)).2; omega
  have c1 : w1.cell? ⟨tb 4, p, none⟩ = some (F 4 p) := by rw [hgrow.cell_far ⟨tb 4, p, none⟩ (s1.rows 4 (by omega)).lt hne]; exact s1.cellT 4 (by omega) p (by omega)
  have c2 : w1.frozen? ⟨tb 4, p, none⟩ = false := by rw [hgrow.frozen_far ⟨tb 4, p, none⟩ (s1.rows 4 (by omega)).lt hne]; exact s1.freeT 4 (by omega) p
  have s2 := s1.kid (p := p) (x := k + 1) (v' := .slice (some ⟨g, 0, none⟩) ((chF P k p).length + 1) cap) (by omega) (by simpa using hown1) hgrow (by
    rcases hat with hat | hat
    · exact .inl hat
    · right; rw [Deep.nblk_alloc, ← hat]; rfl)
  have HS2 := hide s2
  clear s1 s2 hown1 hgrow hat hlt hne hown y0
  go_wp2_with fail
  exact HQ.out _ _ _ _ _ _ (HS2.out.ckSucc HP.out) (Tabs_kid HT.out)
end Go.Proofs.YbulkdpbaR
