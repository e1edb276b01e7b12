/-
  Seat b5798a: the loop that looks for the first match. By an AI agent.
-/
import Derived.Test.YbulkdpbaRReg24
import Derived.Test.YbulkdpbaRBridge
namespace Go.Proofs.YbulkdpbaR
open Go.RowKit

def matchB (M N : Nat → Int) (qm : Nat) (qn : ByteArray) (c : Nat) : Bool := (miF M c == qm) && ((nmF N c).toList == qn.toList)

set_option maxRecDepth 100000 in
set_option maxHeartbeats 2000000 in
theorem loop2 {w W : World} {m0 m1 bm : Nat} {tb : Nat → Nat} {B : Nat} {len qm : Nat} {qn : ByteArray} {F : Nat → Nat → Value} {nb : Nat → Nat} {nf : Nat → Nat → Value} {cc ck : Nat → List Nat} {K N M : Nat → Int} {v : Value} {xs : List Nat} {KK : Act → World → Prop} {RR : Ending → World → Prop} {c : Code} (hc : (findLoop 30 (Yba.f3.body.getD .skip)).getD .skip = c)
    (_h : len ≤ 1024) (hst : St w W m0 m1 bm tb B (len + 1) (len + 1) F nb nf cc ck) (htab : Tabs K N M m0 m1 len F nb nf) (hv : IntSlice W W.heap.size v xs) (hxs : ∀ c ∈ xs, c < len + 1) (hxl : xs.length ≤ 100000)
    (c0 c1 c2 c3 c4 c5 c6 c7 c8 c14 c15 c16 c17 c21 c22 c23 c24 c25 c26 c27 c28 c29 c30 c31 c32 c33 c34 c35 c36 c37 c38 c39 c40 c41 c42 c43 c44 c45 c46 c47 c48 c49 c50 c51 c52 c53 c54 c55 c56 c57 c58 c59 c60 c61 c62 c63 c64 c65 c66 c67 c68 c69 c70 c71 c72 c73 c74 c75 c76 c77 c78 c79 c80 c81 c82 c83 c84 c85 c86 c87 c88 c89 c90 c91 c92 c93 c94 c95 c96 c97 c98 c99 c100 c101 c102 c103 c104 c105 c106 c107 c108 c109 c110 c111 c112 c113 c114 c115 c116 c117 c118 c119 c120 c121 c122 c123 c124 c125 c126 c127 c128 c129 c130 c131 c132 c133 c134 c135 c136 c137 c138 c139 c140 c141 c142 c143 c144 c145 c146 c147 c148 c149 c150 c151 c152 c156 c157 c158 c159 c160 c161 c162 c163 c164 c165 c166 c167 c168 c169 c170 c171 c172 c173 c174 c175 c176 c177 c178 c179 c180 c181 c182 c183 c184 c185 c186 c187 c188 c189 c190 c191 c192 c193 c194 c195 c196 c197 c198 c199 c200 c201 c202 c203 c204 c205 c206 c207 c208 c209 c210 c211 c212 c213 c214 c215 c216 c217 c218 c219 c220 c221 c222 c223 c224 c225 c226 c227 c228 c229 c230 c231 c232 c233 c234 c235 c236 c237 c238 c239 c240 c241 c242 c243 c244 c245 c246 c247 c248 c249 c250 c251 c252 c253 c254 c255 c256 c257 c258 c259 c260 c261 c262 c263 c264 c265 c266 c267 c268 : Value)
    (hK : ∀ (u22 u155 u156 u157 u158 u159 u160 u161 u162 u163 u164 u165 u166 u167 u168 u169 u170 u171 u172 u173 u174 u175 u176 u177 t20 : Value), t20 = ptrOf nb (xs.find? (matchB M N qm qn)) → KK ⟨(List.toArray (c0 :: c1 :: c2 :: c3 :: c4 :: c5 :: c6 :: c7 :: c8 :: (.slice (some ⟨tb 0, 0, none⟩) (len + 1) (len + 1)) :: (.slice (some ⟨tb 1, 0, none⟩) (len + 1) (len + 1)) :: (.slice (some ⟨tb 2, 0, none⟩) (len + 1) (len + 1)) :: (.slice (some ⟨tb 3, 0, none⟩) (len + 1) (len + 1)) :: (.slice (some ⟨tb 4, 0, none⟩) (len + 1) (len + 1)) :: c14 :: c15 :: c16 :: c17 :: (.int .i64 (qm : Int)) :: (.string qn) :: t20 :: c21 :: u22 :: c23 :: c24 :: c25 :: c26 :: c27 :: c28 :: c29 :: c30 :: c31 :: c32 :: c33 :: c34 :: c35 :: c36 :: c37 :: c38 :: c39 :: c40 :: c41 :: c42 :: c43 :: c44 :: c45 :: c46 :: c47 :: c48 :: c49 :: c50 :: c51 :: c52 :: c53 :: c54 :: c55 :: c56 :: c57 :: c58 :: c59 :: c60 :: c61 :: c62 :: c63 :: c64 :: c65 :: c66 :: c67 :: c68 :: c69 :: c70 :: c71 :: c72 :: c73 :: c74 :: c75 :: c76 :: c77 :: c78 :: c79 :: c80 :: c81 :: c82 :: c83 :: c84 :: c85 :: c86 :: c87 :: c88 :: c89 :: c90 :: c91 :: c92 :: c93 :: c94 :: c95 :: c96 :: c97 :: c98 :: c99 :: c100 :: c101 :: c102 :: c103 :: c104 :: c105 :: c106 :: c107 :: c108 :: c109 :: c110 :: c111 :: c112 :: c113 :: c114 :: c115 :: c116 :: c117 :: c118 :: c119 :: c120 :: c121 :: c122 :: c123 :: c124 :: c125 :: c126 :: c127 :: c128 :: c129 :: c130 :: c131 :: c132 :: c133 :: c134 :: c135 :: c136 :: c137 :: c138 :: c139 :: c140 :: c141 :: c142 :: c143 :: c144 :: c145 :: c146 :: c147 :: c148 :: c149 :: c150 :: c151 :: c152 :: v :: (.int .i64 (xs.length : Int)) :: u155 :: u156 :: u157 :: u158 :: u159 :: u160 :: u161 :: u162 :: u163 :: u164 :: u165 :: u166 :: u167 :: u168 :: u169 :: u170 :: u171 :: u172 :: u173 :: u174 :: u175 :: u176 :: u177 :: c178 :: c179 :: c180 :: c181 :: c182 :: c183 :: c184 :: c185 :: c186 :: c187 :: c188 :: c189 :: c190 :: c191 :: c192 :: c193 :: c194 :: c195 :: c196 :: c197 :: c198 :: c199 :: c200 :: c201 :: c202 :: c203 :: c204 :: c205 :: c206 :: c207 :: c208 :: c209 :: c210 :: c211 :: c212 :: c213 :: c214 :: c215 :: c216 :: c217 :: c218 :: c219 :: c220 :: c221 :: c222 :: c223 :: c224 :: c225 :: c226 :: c227 :: c228 :: c229 :: c230 :: c231 :: c232 :: c233 :: c234 :: c235 :: c236 :: c237 :: c238 :: c239 :: c240 :: c241 :: c242 :: c243 :: c244 :: c245 :: c246 :: c247 :: c248 :: c249 :: c250 :: c251 :: c252 :: c253 :: c254 :: c255 :: c256 :: c257 :: c258 :: c259 :: c260 :: c261 :: c262 :: c263 :: c264 :: c265 :: c266 :: c267 :: c268 :: [])), []⟩ W) :
    Code.wp Yba.prog c (Exit.inBlock 2 (Exit.then KK (bodyPost Yba.prog Yba.f3 RR))) ⟨(List.toArray (c0 :: c1 :: c2 :: c3 :: c4 :: c5 :: c6 :: c7 :: c8 :: (.slice (some ⟨tb 0, 0, none⟩) (len + 1) (len + 1)) :: (.slice (some ⟨tb 1, 0, none⟩) (len + 1) (len + 1)) :: (.slice (some ⟨tb 2, 0, none⟩) (len + 1) (len + 1)) :: (.slice (some ⟨tb 3, 0, none⟩) (len + 1) (len + 1)) :: (.slice (some ⟨tb 4, 0, none⟩) (len + 1) (len + 1)) :: c14 :: c15 :: c16 :: c17 :: (.int .i64 (qm : Int)) :: (.string qn) :: (.pointer none) :: c21 :: c22 :: c23 :: c24 :: c25 :: c26 :: c27 :: c28 :: c29 :: c30 :: c31 :: c32 :: c33 :: c34 :: c35 :: c36 :: c37 :: c38 :: c39 :: c40 :: c41 :: c42 :: c43 :: c44 :: c45 :: c46 :: c47 :: c48 :: c49 :: c50 :: c51 :: c52 :: c53 :: c54 :: c55 :: c56 :: c57 :: c58 :: c59 :: c60 :: c61 :: c62 :: c63 :: c64 :: c65 :: c66 :: c67 :: c68 :: c69 :: c70 :: c71 :: c72 :: c73 :: c74 :: c75 :: c76 :: c77 :: c78 :: c79 :: c80 :: c81 :: c82 :: c83 :: c84 :: c85 :: c86 :: c87 :: c88 :: c89 :: c90 :: c91 :: c92 :: c93 :: c94 :: c95 :: c96 :: c97 :: c98 :: c99 :: c100 :: c101 :: c102 :: c103 :: c104 :: c105 :: c106 :: c107 :: c108 :: c109 :: c110 :: c111 :: c112 :: c113 :: c114 :: c115 :: c116 :: c117 :: c118 :: c119 :: c120 :: c121 :: c122 :: c123 :: c124 :: c125 :: c126 :: c127 :: c128 :: c129 :: c130 :: c131 :: c132 :: c133 :: c134 :: c135 :: c136 :: c137 :: c138 :: c139 :: c140 :: c141 :: c142 :: c143 :: c144 :: c145 :: c146 :: c147 :: c148 :: c149 :: c150 :: c151 :: c152 :: v :: (.int .i64 (xs.length : Int)) :: (.int .i64 0) :: c156 :: c157 :: c158 :: c159 :: c160 :: c161 :: c162 :: c163 :: c164 :: c165 :: c166 :: c167 :: c168 :: c169 :: c170 :: c171 :: c172 :: c173 :: c174 :: c175 :: c176 :: c177 :: c178 :: c179 :: c180 :: c181 :: c182 :: c183 :: c184 :: c185 :: c186 :: c187 :: c188 :: c189 :: c190 :: c191 :: c192 :: c193 :: c194 :: c195 :: c196 :: c197 :: c198 :: c199 :: c200 :: c201 :: c202 :: c203 :: c204 :: c205 :: c206 :: c207 :: c208 :: c209 :: c210 :: c211 :: c212 :: c213 :: c214 :: c215 :: c216 :: c217 :: c218 :: c219 :: c220 :: c221 :: c222 :: c223 :: c224 :: c225 :: c226 :: c227 :: c228 :: c229 :: c230 :: c231 :: c232 :: c233 :: c234 :: c235 :: c236 :: c237 :: c238 :: c239 :: c240 :: c241 :: c242 :: c243 :: c244 :: c245 :: c246 :: c247 :: c248 :: c249 :: c250 :: c251 :: c252 :: c253 :: c254 :: c255 :: c256 :: c257 :: c258 :: c259 :: c260 :: c261 :: c262 :: c263 :: c264 :: c265 :: c266 :: c267 :: c268 :: [])), []⟩ W := by
  subst hc
  conv => arg 2; whnf
  have HS := hide hst
  have HT := hide htab
  have HK := hide hK
  have HX := hide hxs
  clear hst htab hK hxs
  rcases hv with ⟨rfl, rfl⟩ | ⟨g, cp, hg, rfl, hcs⟩
  · refine wp_loop_rounds 1 ?_
    rw [rounds_succ]
    go_wp2_with fail
    exact HK.out _ _ _ _ _ _ _ _ _ _ _ _ _ _ _ _ _ _ _ _ _ _ _ _ _ rfl
  · have HCS := hide hcs
    clear hcs
    go_loopw [20, 155] (fun t20 t wr => ∃ k : Nat, k ≤ xs.length ∧ t = .int .i64 k ∧ t20 = .pointer none ∧ wr = W ∧ Hid ((xs.drop k).find? (matchB M N qm qn) = xs.find? (matchB M N qm qn))) (fun _ t _ => xs.length - (intOf t).toNat)
    case atStart => exact ⟨0, Nat.zero_le _, rfl, rfl, rfl, rfl⟩
    case round =>
      obtain ⟨k, hk, rfl, rfl, rfl, HD⟩ := hrel
      by_cases hkl : k < xs.length
      · have hck := HCS.out k hkl
        have hmem : xs.getD k 0 ∈ xs := by simp [List.getD, hkl]
        have hcn := HX.out _ hmem
        have hdrop : xs.drop k = xs.getD k 0 :: xs.drop (k + 1) := by rw [List.drop_eq_getElem_cons hkl]; simp [List.getD, hkl]
        have HE : Hid ((xs.getD k 0 :: xs.drop (k + 1)).find? (matchB M N qm qn) = xs.find? (matchB M N qm qn)) := by rw [← hdrop]; exact HD
        clear hdrop hmem HD
        generalize xs.getD k 0 = c at *
        have z3 := HS.out.cellT 3 (by omega) c hcn
        have z2 := HS.out.cellT 2 (by omega) c hcn
        have z0 := HS.out.cellT 0 (by omega) c hcn
        obtain ⟨t0, _, t2, t3, _⟩ := HT.out c (by omega)
        rw [t3] at z3
        rw [t2] at z2
        rw [t0] at z0
        clear t0 t2 t3
        have hcI : (c : Int) < (len : Int) + 1 := by omega
        cases hm : matchB M N qm qn c with
        | true =>
          have hh := hm
          simp only [matchB, Bool.and_eq_true, beq_iff_eq] at hh
          have b1 : ((miF M c : Int) == (qm : Int)) = true := by simp [hh.1]
          have b2 : ((nmF N c).toList == qn.toList) = true := by simp [hh.2]
          have HF : Hid (ptrOf nb (xs.find? (matchB M N qm qn)) = .pointer (some ⟨nb c, 0, none⟩)) := by
            rw [Hid, ← HE.out, List.find?_cons_of_pos hm]; rfl
          clear hh hm HE
          generalize hmi : miF M c = mi at *
          go_wp2_with fail
          exact HK.out _ _ _ _ _ _ _ _ _ _ _ _ _ _ _ _ _ _ _ _ _ _ _ _ _ HF.out.symm
        | false =>
          have HF : Hid ((xs.drop (k + 1)).find? (matchB M N qm qn) = xs.find? (matchB M N qm qn)) := by
            rw [Hid, ← HE.out, List.find?_cons_of_neg (by simp [hm])]
          clear HE
          cases b1 : ((miF M c : Int) == (qm : Int)) with
          | false =>
            clear hm
            go_wp2_with fail
            go_roundw
            case rel => exact ⟨k + 1, by omega, by go_num, rfl, trivial, HF⟩
            case measure => simp [intOf]; omega
          | true =>
            have b2 : ((nmF N c).toList == qn.toList) = false := by
              cases b2 : ((nmF N c).toList == qn.toList) with
              | false => rfl
              | true =>
                have e1 : (miF M c == qm) = true := beq_iff_eq.2 (by have := beq_iff_eq.1 b1; omega)
                simp only [matchB, e1, b2] at hm
                cases hm
            clear hm
            go_wp2_with fail
            go_roundw
            case rel => exact ⟨k + 1, by omega, by go_num, rfl, trivial, HF⟩
            case measure => simp [intOf]; omega
      · go_wp2_with fail
        have e : xs.find? (matchB M N qm qn) = none := by rw [← HD.out, List.drop_of_length_le (by omega)]; rfl
        exact HK.out _ _ _ _ _ _ _ _ _ _ _ _ _ _ _ _ _ _ _ _ _ _ _ _ _ (by rw [e]; rfl)
end Go.Proofs.YbulkdpbaR
