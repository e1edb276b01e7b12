/-
  Seat b5799a: finding a part of the program by its number; region 9 (top[i] = &gfm.Block{..}), which draws its order. By an AI agent.
-/
import Derived.Test.YbulkdpboBase
import Derived.Deep.RegionHeld3
import Derived.Deep.CutRange
namespace Go.Proofs.Ybulkdpbo
open Go.RowKit

def findRegion (n : Nat) : Code → Option Code
  | .region id ops d => if id = n then some (.region id ops d) else none
  | .seq a b => match findRegion n a with
    | some c => some c
    | none => findRegion n b
  | .cond _ a b => match findRegion n a with
    | some c => some c
    | none => findRegion n b
  | .block _ c => findRegion n c
  | .loop c => findRegion n c
  | .scope c => findRegion n c
  | _ => none

def headRegion : Code → Option Nat
  | .region id _ _ => some id
  | .seq a _ => headRegion a
  | .block _ c => headRegion c
  | .scope c => headRegion c
  | _ => none

/-- The loop whose body begins with region n. -/
def findLoop (n : Nat) : Code → Option Code
  | .loop c => if headRegion c = some n then some (.loop c) else findLoop n c
  | .seq a b => match findLoop n a with
    | some c => some c
    | none => findLoop n b
  | .cond _ a b => match findLoop n a with
    | some c => some c
    | none => findLoop n b
  | .block _ c => findLoop n c
  | .scope c => findLoop n c
  | _ => none

set_option maxRecDepth 100000 in
set_option maxHeartbeats 2000000 in
theorem reg9 {w W : World} {tb len cap len1 cap1 k b off : Nat} {a1 : Option Addr} {nb : Nat → Nat} {z z1 : Nat → Int} {K1 K2 K3 : Act → World → Prop} {RR : Ending → World → Prop} {c : Code}
    (hc : (findRegion 9 (Yba.f3.body.getD .skip)).getD .skip = c)
    (hl1 : len1 ≤ 9223372036854775807) (hk : k < len) (hs : Bs w W tb len k nb z (lvl z1 len1)) (hbw : b < w.heap.size) (hk40 : k ≤ 1048576) (hz : W.cell? ⟨b, off + k, none⟩ = some (.int .u8 (z k))) (z0 : 0 ≤ z k) (_z2 : z k ≤ 255) (hr1 : Row W w.heap.size a1 len1 z1)
    (c2 c3 c4 c7 c8 c9 c10 c11 c12 c13 c14 c15 c16 c17 c18 c19 c20 c21 c22 c23 c24 c25 c26 c27 c28 c29 c30 c31 c32 c33 c34 c35 c36 c37 c38 c39 c40 c41 c42 c43 c44 c45 c46 c47 c48 c49 c50 c51 c52 c53 c54 c55 c56 c57 c58 c59 c60 c61 c62 c63 c64 c65 c66 c67 c68 c69 c70 c71 c72 c73 c74 c75 c76 c77 c78 c79 c80 c81 c82 c83 c84 c85 c86 c87 c88 c89 c90 c91 c92 c93 c94 c95 c96 c97 c98 c99 c100 c101 c102 c103 c104 c105 c106 c107 c108 c109 c110 c111 c112 c113 c114 c115 c116 c117 c118 c119 c120 c121 c122 c123 c124 c125 c126 c127 c128 c129 c130 c131 c132 c133 c134 c135 c136 c137 c138 c139 c140 c141 c142 c143 c144 c145 c146 c147 c148 c149 c150 c151 c152 c153 c154 c155 c156 c157 c158 c159 c160 c161 c162 c163 c164 c165 c166 c167 c168 c169 c170 c171 c172 c173 c174 c175 c176 c177 c178 c179 c180 c181 c182 c183 c184 c185 c186 c187 c188 c189 c190 c191 c192 c193 c194 c195 c196 c197 c198 c199 c200 c201 c202 c203 c204 c205 c206 c207 c208 c209 c210 c211 c212 c213 c214 c215 c216 : Value)
    (hQ : ∀ (v30 v31 v32 v33 v34 v35 v36 v37 v38 v39 v40 v41 v42 v43 v44 v45 : Value) w', (∃ nb, Bs w w' tb len (k + 1) nb z (lvl z1 len1)) → K1 ⟨(List.toArray ((.slice (some ⟨b, off, none⟩) len cap) :: (.slice a1 len1 cap1) :: c2 :: c3 :: c4 :: (.slice (some ⟨tb, 0, none⟩) len len) :: (.int .i64 (k : Int)) :: c7 :: c8 :: c9 :: c10 :: c11 :: c12 :: c13 :: c14 :: c15 :: c16 :: c17 :: c18 :: c19 :: c20 :: c21 :: c22 :: c23 :: c24 :: c25 :: c26 :: c27 :: c28 :: c29 :: v30 :: v31 :: v32 :: v33 :: v34 :: v35 :: v36 :: v37 :: v38 :: v39 :: v40 :: v41 :: v42 :: v43 :: v44 :: v45 :: c46 :: c47 :: c48 :: c49 :: c50 :: c51 :: c52 :: c53 :: c54 :: c55 :: c56 :: c57 :: c58 :: c59 :: c60 :: c61 :: c62 :: c63 :: c64 :: c65 :: c66 :: c67 :: c68 :: c69 :: c70 :: c71 :: c72 :: c73 :: c74 :: c75 :: c76 :: c77 :: c78 :: c79 :: c80 :: c81 :: c82 :: c83 :: c84 :: c85 :: c86 :: c87 :: c88 :: c89 :: c90 :: c91 :: c92 :: c93 :: c94 :: c95 :: c96 :: c97 :: c98 :: c99 :: c100 :: c101 :: c102 :: c103 :: c104 :: c105 :: c106 :: c107 :: c108 :: c109 :: c110 :: c111 :: c112 :: c113 :: c114 :: c115 :: c116 :: c117 :: c118 :: c119 :: c120 :: c121 :: c122 :: c123 :: c124 :: c125 :: c126 :: c127 :: c128 :: c129 :: c130 :: c131 :: c132 :: c133 :: c134 :: c135 :: c136 :: c137 :: c138 :: c139 :: c140 :: c141 :: c142 :: c143 :: c144 :: c145 :: c146 :: c147 :: c148 :: c149 :: c150 :: c151 :: c152 :: c153 :: c154 :: c155 :: c156 :: c157 :: c158 :: c159 :: c160 :: c161 :: c162 :: c163 :: c164 :: c165 :: c166 :: c167 :: c168 :: c169 :: c170 :: c171 :: c172 :: c173 :: c174 :: c175 :: c176 :: c177 :: c178 :: c179 :: c180 :: c181 :: c182 :: c183 :: c184 :: c185 :: c186 :: c187 :: c188 :: c189 :: c190 :: c191 :: c192 :: c193 :: c194 :: c195 :: c196 :: c197 :: c198 :: c199 :: c200 :: c201 :: c202 :: c203 :: c204 :: c205 :: c206 :: c207 :: c208 :: c209 :: c210 :: c211 :: c212 :: c213 :: c214 :: c215 :: c216 :: [])), []⟩ w') :
    Code.wp Yba.prog c (Exit.inBlock 1 (Exit.then K1 (Exit.then K2 (Exit.inBlock 0 (Exit.then K3 (bodyPost Yba.prog Yba.f3 RR)))))) ⟨(List.toArray ((.slice (some ⟨b, off, none⟩) len cap) :: (.slice a1 len1 cap1) :: c2 :: c3 :: c4 :: (.slice (some ⟨tb, 0, none⟩) len len) :: (.int .i64 (k : Int)) :: c7 :: c8 :: c9 :: c10 :: c11 :: c12 :: c13 :: c14 :: c15 :: c16 :: c17 :: c18 :: c19 :: c20 :: c21 :: c22 :: c23 :: c24 :: c25 :: c26 :: c27 :: c28 :: c29 :: c30 :: c31 :: c32 :: c33 :: c34 :: c35 :: c36 :: c37 :: c38 :: c39 :: c40 :: c41 :: c42 :: c43 :: c44 :: c45 :: c46 :: c47 :: c48 :: c49 :: c50 :: c51 :: c52 :: c53 :: c54 :: c55 :: c56 :: c57 :: c58 :: c59 :: c60 :: c61 :: c62 :: c63 :: c64 :: c65 :: c66 :: c67 :: c68 :: c69 :: c70 :: c71 :: c72 :: c73 :: c74 :: c75 :: c76 :: c77 :: c78 :: c79 :: c80 :: c81 :: c82 :: c83 :: c84 :: c85 :: c86 :: c87 :: c88 :: c89 :: c90 :: c91 :: c92 :: c93 :: c94 :: c95 :: c96 :: c97 :: c98 :: c99 :: c100 :: c101 :: c102 :: c103 :: c104 :: c105 :: c106 :: c107 :: c108 :: c109 :: c110 :: c111 :: c112 :: c113 :: c114 :: c115 :: c116 :: c117 :: c118 :: c119 :: c120 :: c121 :: c122 :: c123 :: c124 :: c125 :: c126 :: c127 :: c128 :: c129 :: c130 :: c131 :: c132 :: c133 :: c134 :: c135 :: c136 :: c137 :: c138 :: c139 :: c140 :: c141 :: c142 :: c143 :: c144 :: c145 :: c146 :: c147 :: c148 :: c149 :: c150 :: c151 :: c152 :: c153 :: c154 :: c155 :: c156 :: c157 :: c158 :: c159 :: c160 :: c161 :: c162 :: c163 :: c164 :: c165 :: c166 :: c167 :: c168 :: c169 :: c170 :: c171 :: c172 :: c173 :: c174 :: c175 :: c176 :: c177 :: c178 :: c179 :: c180 :: c181 :: c182 :: c183 :: c184 :: c185 :: c186 :: c187 :: c188 :: c189 :: c190 :: c191 :: c192 :: c193 :: c194 :: c195 :: c196 :: c197 :: c198 :: c199 :: c200 :: c201 :: c202 :: c203 :: c204 :: c205 :: c206 :: c207 :: c208 :: c209 :: c210 :: c211 :: c212 :: c213 :: c214 :: c215 :: c216 :: [])), []⟩ W := by
  subst hc
  conv => arg 2; whnf
  have HR1 := hide hr1
  have HN := hide hs.next.drew
  have hkI : (k : Int) < (len : Int) := by omega
  have haf : ∀ o, (W.alloc o).frozen? ⟨tb, k, none⟩ = false := fun o => (hs.alloc o).freeT k
  obtain ⟨f, hf, _⟩ := hs.row
  have hal : ∀ o, (W.alloc o).cell? ⟨tb, k, none⟩ = some (f k) := fun o => (hf.alloc o).cell hk
  have hne := World.new_ne W ⟨b, off + k, none⟩ hz
  have hbt : ¬ b = tb := by have := hs.lo; omega
  have hbt2 : ¬ tb = b := fun e => hbt e.symm
  have hm12 : (z k).tmod 12 = z k % 12 := Int.tmod_eq_emod_of_nonneg z0
  have hw1 : IntKind.i64.wrap ((k : Int) + 1) = (k : Int) + 1 := by simp [IntKind.wrap, IntKind.signed, IntKind.bits]; omega
  have HQ := hide hQ
  clear hQ hr1 hs hf
  go_region_held3 (fun w' => w'.cell? ⟨b, off + k, none⟩ = some (.int .u8 (z k))) (go_keep) ((go_at_call 4; refine (level_any _ _ _ z1 k w.heap.size _ (by exact (unhide HR1)) hl1).mono ?_; rintro e w' ⟨rfl, rfl⟩))
  all_goals exact HQ.out _ _ _ _ _ _ _ _ _ _ _ _ _ _ _ _ _ ⟨_, HN.out⟩
end Go.Proofs.Ybulkdpbo
