/-
  Seat b5798a: the loop that builds the tree. By an AI agent. (The frames are laid by a small program of the agent's own.)
-/
import Derived.Test.YbulkdpbaRReg22
import Derived.Test.YbulkdpbaRReg23
namespace Go.Proofs.YbulkdpbaR
open Go.RowKit

set_option maxRecDepth 100000 in
set_option maxHeartbeats 4000000 in
theorem loop1 {w W : World} {m0 m1 bm : Nat} {tb : Nat → Nat} {B : Nat} {ao : Option Addr} {len cap : Nat} {K N M P : Nat → Int} {KK : Act → World → Prop} {RR : Ending → World → Prop} {c : Code} (hc : (findLoop 15 (Yba.f3.body.getD .skip)).getD .skip = c)
    (h : len ≤ 1024) (hst0 : ∃ F nb nf, St w W m0 m1 bm tb B (len + 1) 1 F nb nf (chF P 0) (chF P 0) ∧ Tabs K N M m0 m1 0 F nb nf)
    (hcell : ∀ j, j < len → ∃ b off, ao = some ⟨b, off, none⟩ ∧ b < w.heap.size ∧ w.cell? ⟨b, off + j * 4, none⟩ = some (.int .u8 (K j)) ∧ w.cell? ⟨b, off + j * 4 + 1, none⟩ = some (.int .u8 (N j)) ∧ w.cell? ⟨b, off + j * 4 + 2, none⟩ = some (.int .u8 (M j)) ∧ w.cell? ⟨b, off + j * 4 + 3, none⟩ = some (.int .u16 (P j)))
    (hbd : ∀ j, j < len → 0 ≤ K j ∧ K j ≤ 255 ∧ 0 ≤ N j ∧ N j ≤ 255 ∧ 0 ≤ M j ∧ M j ≤ 255 ∧ 0 ≤ P j ∧ P j ≤ 65535)
    (c0 c1 c2 c3 c4 c5 c6 c7 c14 c15 c16 c17 c18 c19 c20 c21 c22 c23 c24 c25 c26 c27 c28 c29 c30 c31 c32 c33 c34 c35 c36 c37 c38 c39 c40 c41 c42 c43 c44 c45 c46 c47 c48 c49 c50 c51 c52 c53 c54 c55 c56 c57 c58 c62 c63 c64 c65 c66 c67 c68 c69 c70 c71 c72 c73 c74 c75 c76 c77 c78 c79 c80 c81 c82 c83 c84 c85 c86 c87 c88 c89 c90 c91 c92 c93 c94 c95 c96 c97 c98 c99 c100 c101 c102 c103 c104 c105 c106 c107 c108 c109 c110 c111 c112 c113 c114 c115 c116 c117 c118 c119 c120 c121 c122 c123 c124 c125 c126 c127 c128 c129 c130 c131 c132 c133 c134 c135 c136 c137 c138 c139 c140 c141 c142 c143 c144 c145 c146 c147 c148 c149 c150 c151 c152 c153 c154 c155 c156 c157 c158 c159 c160 c161 c162 c163 c164 c165 c166 c167 c168 c169 c170 c171 c172 c173 c174 c175 c176 c177 c178 c179 c180 c181 c182 c183 c184 c185 c186 c187 c188 c189 c190 c191 c192 c193 c194 c195 c196 c197 c198 c199 c200 c201 c202 c203 c204 c205 c206 c207 c208 c209 c210 c211 c212 c213 c214 c215 c216 c217 c218 c219 c220 c221 c222 c223 c224 c225 c226 c227 c228 c229 c230 c231 c232 c233 c234 c235 c236 c237 c238 c239 c240 c241 c242 c243 c244 c245 c246 c247 c248 c249 c250 c251 c252 c253 c254 c255 c256 c257 c258 c259 c260 c261 c262 c263 c264 c265 c266 c267 c268 : Value)
    (hK : ∀ (u14 u15 u16 u17 u61 u62 u63 u64 u65 u66 u67 u68 u69 u70 u71 u72 u73 u74 u75 u76 u77 u78 u79 u80 u81 u82 u83 u84 u85 u86 u87 u88 u89 u90 u91 u92 u93 u94 u95 u96 u97 u98 u99 u100 u101 u102 u103 u104 u105 u106 u107 u108 u109 u110 u111 u112 u113 u114 u115 u116 u117 u118 u119 u120 u121 u122 u123 u124 u125 u126 u127 u128 u129 u130 u131 u132 u133 u134 u135 u136 u137 u138 u139 u140 u141 u142 u143 u144 u145 : Value) (w' : World), (∃ F nb nf, St w w' m0 m1 bm tb B (len + 1) (len + 1) F nb nf (chF P len) (chF P len) ∧ Tabs K N M m0 m1 len F nb nf) → KK ⟨(List.toArray (c0 :: c1 :: c2 :: c3 :: c4 :: c5 :: c6 :: c7 :: (.slice (some ⟨bm, 0, none⟩) 3 3) :: (.slice (some ⟨tb 0, 0, none⟩) (len + 1) (len + 1)) :: (.slice (some ⟨tb 1, 0, none⟩) (len + 1) (len + 1)) :: (.slice (some ⟨tb 2, 0, none⟩) (len + 1) (len + 1)) :: (.slice (some ⟨tb 3, 0, none⟩) (len + 1) (len + 1)) :: (.slice (some ⟨tb 4, 0, none⟩) (len + 1) (len + 1)) :: u14 :: u15 :: u16 :: u17 :: c18 :: c19 :: c20 :: c21 :: c22 :: c23 :: c24 :: c25 :: c26 :: c27 :: c28 :: c29 :: c30 :: c31 :: c32 :: c33 :: c34 :: c35 :: c36 :: c37 :: c38 :: c39 :: c40 :: c41 :: c42 :: c43 :: c44 :: c45 :: c46 :: c47 :: c48 :: c49 :: c50 :: c51 :: c52 :: c53 :: c54 :: c55 :: c56 :: c57 :: c58 :: (.slice ao len cap) :: (.int .i64 (len : Int)) :: u61 :: u62 :: u63 :: u64 :: u65 :: u66 :: u67 :: u68 :: u69 :: u70 :: u71 :: u72 :: u73 :: u74 :: u75 :: u76 :: u77 :: u78 :: u79 :: u80 :: u81 :: u82 :: u83 :: u84 :: u85 :: u86 :: u87 :: u88 :: u89 :: u90 :: u91 :: u92 :: u93 :: u94 :: u95 :: u96 :: u97 :: u98 :: u99 :: u100 :: u101 :: u102 :: u103 :: u104 :: u105 :: u106 :: u107 :: u108 :: u109 :: u110 :: u111 :: u112 :: u113 :: u114 :: u115 :: u116 :: u117 :: u118 :: u119 :: u120 :: u121 :: u122 :: u123 :: u124 :: u125 :: u126 :: u127 :: u128 :: u129 :: u130 :: u131 :: u132 :: u133 :: u134 :: u135 :: u136 :: u137 :: u138 :: u139 :: u140 :: u141 :: u142 :: u143 :: u144 :: u145 :: c146 :: c147 :: c148 :: c149 :: c150 :: c151 :: c152 :: c153 :: c154 :: c155 :: c156 :: c157 :: c158 :: c159 :: c160 :: c161 :: c162 :: c163 :: c164 :: c165 :: c166 :: c167 :: c168 :: c169 :: c170 :: c171 :: c172 :: c173 :: c174 :: c175 :: c176 :: c177 :: c178 :: c179 :: c180 :: c181 :: c182 :: c183 :: c184 :: c185 :: c186 :: c187 :: c188 :: c189 :: c190 :: c191 :: c192 :: c193 :: c194 :: c195 :: c196 :: c197 :: c198 :: c199 :: c200 :: c201 :: c202 :: c203 :: c204 :: c205 :: c206 :: c207 :: c208 :: c209 :: c210 :: c211 :: c212 :: c213 :: c214 :: c215 :: c216 :: c217 :: c218 :: c219 :: c220 :: c221 :: c222 :: c223 :: c224 :: c225 :: c226 :: c227 :: c228 :: c229 :: c230 :: c231 :: c232 :: c233 :: c234 :: c235 :: c236 :: c237 :: c238 :: c239 :: c240 :: c241 :: c242 :: c243 :: c244 :: c245 :: c246 :: c247 :: c248 :: c249 :: c250 :: c251 :: c252 :: c253 :: c254 :: c255 :: c256 :: c257 :: c258 :: c259 :: c260 :: c261 :: c262 :: c263 :: c264 :: c265 :: c266 :: c267 :: c268 :: [])), []⟩ w') :
    Code.wp Yba.prog c (Exit.inBlock 0 (Exit.then KK (bodyPost Yba.prog Yba.f3 RR))) ⟨(List.toArray (c0 :: c1 :: c2 :: c3 :: c4 :: c5 :: c6 :: c7 :: (.slice (some ⟨bm, 0, none⟩) 3 3) :: (.slice (some ⟨tb 0, 0, none⟩) (len + 1) (len + 1)) :: (.slice (some ⟨tb 1, 0, none⟩) (len + 1) (len + 1)) :: (.slice (some ⟨tb 2, 0, none⟩) (len + 1) (len + 1)) :: (.slice (some ⟨tb 3, 0, none⟩) (len + 1) (len + 1)) :: (.slice (some ⟨tb 4, 0, none⟩) (len + 1) (len + 1)) :: c14 :: c15 :: c16 :: c17 :: c18 :: c19 :: c20 :: c21 :: c22 :: c23 :: c24 :: c25 :: c26 :: c27 :: c28 :: c29 :: c30 :: c31 :: c32 :: c33 :: c34 :: c35 :: c36 :: c37 :: c38 :: c39 :: c40 :: c41 :: c42 :: c43 :: c44 :: c45 :: c46 :: c47 :: c48 :: c49 :: c50 :: c51 :: c52 :: c53 :: c54 :: c55 :: c56 :: c57 :: c58 :: (.slice ao len cap) :: (.int .i64 (len : Int)) :: (.int .i64 0) :: c62 :: c63 :: c64 :: c65 :: c66 :: c67 :: c68 :: c69 :: c70 :: c71 :: c72 :: c73 :: c74 :: c75 :: c76 :: c77 :: c78 :: c79 :: c80 :: c81 :: c82 :: c83 :: c84 :: c85 :: c86 :: c87 :: c88 :: c89 :: c90 :: c91 :: c92 :: c93 :: c94 :: c95 :: c96 :: c97 :: c98 :: c99 :: c100 :: c101 :: c102 :: c103 :: c104 :: c105 :: c106 :: c107 :: c108 :: c109 :: c110 :: c111 :: c112 :: c113 :: c114 :: c115 :: c116 :: c117 :: c118 :: c119 :: c120 :: c121 :: c122 :: c123 :: c124 :: c125 :: c126 :: c127 :: c128 :: c129 :: c130 :: c131 :: c132 :: c133 :: c134 :: c135 :: c136 :: c137 :: c138 :: c139 :: c140 :: c141 :: c142 :: c143 :: c144 :: c145 :: c146 :: c147 :: c148 :: c149 :: c150 :: c151 :: c152 :: c153 :: c154 :: c155 :: c156 :: c157 :: c158 :: c159 :: c160 :: c161 :: c162 :: c163 :: c164 :: c165 :: c166 :: c167 :: c168 :: c169 :: c170 :: c171 :: c172 :: c173 :: c174 :: c175 :: c176 :: c177 :: c178 :: c179 :: c180 :: c181 :: c182 :: c183 :: c184 :: c185 :: c186 :: c187 :: c188 :: c189 :: c190 :: c191 :: c192 :: c193 :: c194 :: c195 :: c196 :: c197 :: c198 :: c199 :: c200 :: c201 :: c202 :: c203 :: c204 :: c205 :: c206 :: c207 :: c208 :: c209 :: c210 :: c211 :: c212 :: c213 :: c214 :: c215 :: c216 :: c217 :: c218 :: c219 :: c220 :: c221 :: c222 :: c223 :: c224 :: c225 :: c226 :: c227 :: c228 :: c229 :: c230 :: c231 :: c232 :: c233 :: c234 :: c235 :: c236 :: c237 :: c238 :: c239 :: c240 :: c241 :: c242 :: c243 :: c244 :: c245 :: c246 :: c247 :: c248 :: c249 :: c250 :: c251 :: c252 :: c253 :: c254 :: c255 :: c256 :: c257 :: c258 :: c259 :: c260 :: c261 :: c262 :: c263 :: c264 :: c265 :: c266 :: c267 :: c268 :: [])), []⟩ W := by
  subst hc
  conv => arg 2; whnf
  have HR := hide hst0
  have HC := hide hcell
  have HB := hide hbd
  have HK := hide hK
  clear hst0 hcell hbd hK
  go_loopw [61] (fun t wr => ∃ k : Nat, k ≤ len ∧ t = .int .i64 k ∧ Hid (∃ F nb nf, St w wr m0 m1 bm tb B (len + 1) (k + 1) F nb nf (chF P k) (chF P k) ∧ Tabs K N M m0 m1 k F nb nf)) (fun t _ => len - (intOf t).toNat)
  case atStart => exact ⟨0, Nat.zero_le _, rfl, HR⟩
  case round =>
    clear HR
    obtain ⟨k, hk, rfl, HR⟩ := hrel
    by_cases hkl : k < len
    · obtain ⟨F, nb, nf, hst, htab⟩ := HR.out
      obtain ⟨b, off, rfl, hb, e0, e1, e2, e3⟩ := HC.out k hkl
      obtain ⟨b0, b1, b2, b3, b4, b5, b6, b7⟩ := HB.out k hkl
      replace e0 := (hst.bel.cell (p := ⟨b, off + k * 4, none⟩) hb).trans e0
      replace e1 := (hst.bel.cell (p := ⟨b, off + k * 4 + 1, none⟩) hb).trans e1
      replace e2 := (hst.bel.cell (p := ⟨b, off + k * 4 + 2, none⟩) hb).trans e2
      replace e3 := (hst.bel.cell (p := ⟨b, off + k * 4 + 3, none⟩) hb).trans e3
      have HT := hide htab
      clear HR htab
      have hbs := hst.bel.size
      have HS := hide hst
      clear hst
      go_upto_region 17 with (fail)
      refine wp_gen (fun W => St w W m0 m1 bm tb B (len + 1) (k + 1) F nb nf (chF P k) (chF P k) ∧ W.heap[wr.heap.size]? = some (.cells #[.int .u8 (K k), .int .u8 (N k), .int .u8 (M k), .int .u16 (P k)] 48 (0, 0))) ⟨HS.out.alloc _, heap_alloc_new _ _⟩ ?_
      intro w6 hR
      obtain ⟨hst, hsb⟩ := hR
      have hsB := HS.out.size
      clear HS e0 e1 e2 e3 hbs
      generalize wr.heap.size = sb at *
      have s0 : w6.cell? ⟨sb, 0, none⟩ = some (.int .u8 (K k)) := by simp [World.cell?, hsb]
      have s3 : w6.cell? ⟨sb, 3, none⟩ = some (.int .u16 (P k)) := by simp [World.cell?, hsb]
      have hp := par_eq P k
      have hpk := par_le P k
      have hmi := mi_eq M k
      have hmi3 := mi_lt M (k + 1)
      obtain ⟨p, hpe⟩ : ∃ p, p = parF P (k + 1) := ⟨_, rfl⟩
      obtain ⟨mi, hme⟩ : ∃ mi, mi = miF M (k + 1) := ⟨_, rfl⟩
      rw [← hpe] at hp hpk
      rw [← hme] at hmi hmi3
      have HPE := hide hpe
      have HME := hide hme
      clear hpe hme
      have z1 := hst.cellT 1 (by omega) (k + 1) (by omega)
      have z2 := hst.freeT 1 (by omega) (k + 1)
      have HS := hide hst
      have HSB := hide hsb
      clear hst hsb
      go_upto_region 20 with (go_at_call 4; refine (kind_any _ _ b0 b1).mono ?_; rintro e w' ⟨rfl, rfl⟩)
      refine wp_gen (fun W => St w W m0 m1 bm tb B (len + 1) (k + 1) _ nb nf (chF P k) (chF P k) ∧ W.heap[sb]? = some (.cells #[.int .u8 (K k), .int .u8 (N k), .int .u8 (M k), .int .u16 (P k)] 48 (0, 0))) ⟨HS.out.set 1 (by omega) (k + 1) (.int .i64 (kindOf (K k))), HS.out.keepBlk hsB HSB.out 1 (by omega) _ _⟩ ?_
      intro w7 hR
      obtain ⟨hst, hsb⟩ := hR
      clear HS HSB s0 s3 z1 z2
      have s1 : w7.cell? ⟨sb, 1, none⟩ = some (.int .u8 (N k)) := by simp [World.cell?, hsb]
      have z1 := hst.cellT 2 (by omega) (k + 1) (by omega)
      have z2 := hst.freeT 2 (by omega) (k + 1)
      have HS := hide hst
      have HSB := hide hsb
      clear hst hsb
      go_upto_region 21 with (go_at_call 5; refine (name_any _ _ b2 b3).mono ?_; rintro e w' ⟨rfl, rfl⟩)
      refine wp_gen (fun W => St w W m0 m1 bm tb B (len + 1) (k + 1) _ nb nf (chF P k) (chF P k) ∧ W.heap[sb]? = some (.cells #[.int .u8 (K k), .int .u8 (N k), .int .u8 (M k), .int .u16 (P k)] 48 (0, 0))) ⟨HS.out.set 2 (by omega) (k + 1) (.string (nameOf (N k))), HS.out.keepBlk hsB HSB.out 2 (by omega) _ _⟩ ?_
      intro w8 hR
      obtain ⟨hst, hsb⟩ := hR
      clear HS HSB s1 z1 z2
      have s2 : w8.cell? ⟨sb, 2, none⟩ = some (.int .u8 (M k)) := by simp [World.cell?, hsb]
      have z1 := hst.cellT 3 (by omega) (k + 1) (by omega)
      have z2 := hst.freeT 3 (by omega) (k + 1)
      have HS := hide hst
      clear hst hsb
      go_upto_region 22 with (fail)
      refine wp_gen (fun W => ∃ F', St w W m0 m1 bm tb B (len + 1) (k + 1) F' nb nf (chF P k) (chF P k) ∧ F' 1 (k + 1) = .int .i64 (kindOf (K k)) ∧ F' 2 (k + 1) = .string (nameOf (N k)) ∧ F' 3 (k + 1) = .int .i64 (mi : Int) ∧ (∀ q j, q < 4 → j ≤ k → F' q j = F q j)) ?_ ?_
      · refine ⟨_, HS.out.set 3 (by omega) (k + 1) (.int .i64 (mi : Int)), by simp, by simp, by simp, ?_⟩
        intro q j hq hj
        have : j ≠ k + 1 := by omega
        by_cases g1 : q = 1 <;> by_cases g2 : q = 2 <;> by_cases g3 : q = 3 <;> simp [*]
      clear HS s2 z1 z2
      intro w9 hR
      obtain ⟨F', hst, f1, f2, f3, fo⟩ := hR
      have HS := hide hst
      have HF1 := hide f1
      have HF2 := hide f2
      have HF3 := hide f3
      have HFO := hide fo
      clear hst f1 f2 f3 fo
      refine reg22 (k := k) (p := p) (mi := mi) (K := K) (N := N) (M := M) (P := P) (by kernel_rfl) h hkl hpk HS.out HT.out HF1.out HF2.out HF3.out HFO.out hmi3 HME.out _ _ _ _ _ _ _ _ _ _ _ _ _ _ _ _ _ _ _ _ _ _ _ _ _ _ _ _ _ _ _ _ _ _ _ _ _ _ _ _ _ _ _ _ _ _ _ _ _ _ _ _ _ _ _ _ _ _ _ _ _ _ _ _ _ _ _ _ _ _ _ _ _ _ _ _ _ _ _ _ _ _ _ _ _ _ _ _ _ _ _ _ _ _ _ _ _ _ _ _ _ _ _ _ _ _ _ _ _ _ _ _ _ _ _ _ _ _ _ _ _ _ _ _ _ _ _ _ _ _ _ _ _ _ _ _ _ _ _ _ _ _ _ _ _ _ _ _ _ _ _ _ _ _ _ _ _ _ _ _ _ _ _ _ _ _ _ _ _ _ _ _ _ _ _ _ _ _ _ _ _ _ _ _ _ _ _ _ _ _ _ _ _ _ _ _ _ _ _ _ _ _ _ _ _ _ _ _ _ _ _ _ _ _ _ _ _ _ _ _ _ _ _ _ _ _ _ _ _ _ _ _ _ _ _ _ _ _ _ _ _ _ _ _ _ _ _ _ _ _ _ _ _ _ _ _ _ _ _ _ _ ?_
      clear HS HF1 HF2 HF3 HFO HME HT
      intro x92 x93 x94 x95 x96 x97 x98 x99 x100 x101 x102 x103 x104 x105 x106 x107 x108 x109 x110 x111 x112 x113 x114 x115 w10 hR
      have HR2 := hide hR
      clear hR
      go_upto_region 23 with (fail)
      obtain ⟨F2, nb2, nf2, hst, htab⟩ := HR2.out
      refine reg23 (k := k) (p := p) (K := K) (N := N) (M := M) (P := P) (by kernel_rfl) h hkl hpk hst htab HPE.out _ _ _ _ _ _ _ _ _ _ _ _ _ _ _ _ _ _ _ _ _ _ _ _ _ _ _ _ _ _ _ _ _ _ _ _ _ _ _ _ _ _ _ _ _ _ _ _ _ _ _ _ _ _ _ _ _ _ _ _ _ _ _ _ _ _ _ _ _ _ _ _ _ _ _ _ _ _ _ _ _ _ _ _ _ _ _ _ _ _ _ _ _ _ _ _ _ _ _ _ _ _ _ _ _ _ _ _ _ _ _ _ _ _ _ _ _ _ _ _ _ _ _ _ _ _ _ _ _ _ _ _ _ _ _ _ _ _ _ _ _ _ _ _ _ _ _ _ _ _ _ _ _ _ _ _ _ _ _ _ _ _ _ _ _ _ _ _ _ _ _ _ _ _ _ _ _ _ _ _ _ _ _ _ _ _ _ _ _ _ _ _ _ _ _ _ _ _ _ _ _ _ _ _ _ _ _ _ _ _ _ _ _ _ _ _ _ _ _ _ _ _ _ _ _ _ _ _ _ _ _ _ _ _ _ _ _ _ _ _ _ _ _ _ _ _ _ _ _ _ _ _ _ _ _ _ _ _ _ _ _ _ _ _ _ _ ?_
      clear hst htab HR2
      intro y116 y117 y118 y119 y120 y121 y122 y123 y124 y125 y126 y127 y128 y129 y130 y131 y132 y133 y134 nf3 w12 hs ht
      have HS2 := hide hs
      have HT2 := hide ht
      clear hs ht
      go_upto_region 24 with (fail)
      refine reg24 (k := k) (p := p) (K := K) (N := N) (M := M) (P := P) _ (by kernel_rfl) h hkl hpk HS2.out HT2.out HPE.out _ _ _ _ _ _ _ _ _ _ _ _ _ _ _ _ _ _ _ _ _ _ _ _ _ _ _ _ _ _ _ _ _ _ _ _ _ _ _ _ _ _ _ _ _ _ _ _ _ _ _ _ _ _ _ _ _ _ _ _ _ _ _ _ _ _ _ _ _ _ _ _ _ _ _ _ _ _ _ _ _ _ _ _ _ _ _ _ _ _ _ _ _ _ _ _ _ _ _ _ _ _ _ _ _ _ _ _ _ _ _ _ _ _ _ _ _ _ _ _ _ _ _ _ _ _ _ _ _ _ _ _ _ _ _ _ _ _ _ _ _ _ _ _ _ _ _ _ _ _ _ _ _ _ _ _ _ _ _ _ _ _ _ _ _ _ _ _ _ _ _ _ _ _ _ _ _ _ _ _ _ _ _ _ _ _ _ _ _ _ _ _ _ _ _ _ _ _ _ _ _ _ _ _ _ _ _ _ _ _ _ _ _ _ _ _ _ _ _ _ _ _ _ _ _ _ _ _ _ _ _ _ _ _ _ _ _ _ _ _ _ _ _ _ _ _ _ _ _ _ _ _ _ _ _ _ _ _ _ _ _ _ _ _ _ _ ?_
      clear HS2 HT2
      intro F4 z139 z140 z142 z143 w14 hs ht
      have HS2 := hide hs
      have HT2 := hide ht
      clear hs ht
      go_wp2_with fail
      go_roundw
      case rel => exact ⟨k + 1, by omega, by go_num, ⟨_, _, _, HS2.out, HT2.out⟩⟩
      case measure => simp [intOf]; omega
    · have e : k = len := by omega
      subst e
      go_wp2_with fail
      exact HK.out _ _ _ _ _ _ _ _ _ _ _ _ _ _ _ _ _ _ _ _ _ _ _ _ _ _ _ _ _ _ _ _ _ _ _ _ _ _ _ _ _ _ _ _ _ _ _ _ _ _ _ _ _ _ _ _ _ _ _ _ _ _ _ _ _ _ _ _ _ _ _ _ _ _ _ _ _ _ _ _ _ _ _ _ _ _ _ _ _ _ HR.out
end Go.Proofs.YbulkdpbaR
