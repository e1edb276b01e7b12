/-
  Seat b5799a: what the last loops read; the loop that looks the blocks over. By an AI agent.
-/
import Derived.Test.YbulkdpboReg23
namespace Go.Proofs.Ybulkdpbo
open Go.RowKit

theorem run_neq_ptr_same (w : World) {tp te : TypeId} {j : TypeInfo} (a : Option Addr) (hp : Yba.prog.underlying tp = some (.pointer te)) (hte : Yba.prog.info? te = some j) : (binOp .neq tp (.pointer a) (.pointer a)).run Yba.prog w = .ok (.bool false) w := by
  have h : ∀ d : Nat, (Op.equalIn (d + 1) tp (.pointer a) (.pointer a)).run Yba.prog w = .ok true w := fun d => by
    cases a <;> simp [Op.equalIn, run_underlying hp, sizeOf, typeInfo, hte, run_sameAddr_same]
  simp only [binOp]
  simp [Op.equal, Op.maxDepth, h 9999]
theorem Yba.size30 : (Yba.prog.info? 30).map (·.size) = some 10 := by kernel_rfl
theorem Yba.size24 : (Yba.prog.info? 24).map (·.size) = some 1 := by kernel_rfl
theorem neq24 (x : Option Addr) (V : World) : (binOp .neq 24 (.pointer x) (.pointer x)).run Yba.prog V = .ok (.bool false) V := by
  obtain ⟨j, hj, _⟩ := Option.map_eq_some_iff.1 Yba.size30
  exact run_neq_ptr_same V x Yba.underlying24 hj
theorem neq38 (x : Option Addr) (V : World) : (binOp .neq 38 (.pointer x) (.pointer x)).run Yba.prog V = .ok (.bool false) V := by
  obtain ⟨j, hj, _⟩ := Option.map_eq_some_iff.1 Yba.size24
  exact run_neq_ptr_same V x Yba.underlying38 hj

/-- The document as it stands behind 'copy'. -/
structure Fin (w0 w : World) (tb r d sv len : Nat) (nb : Nat → Nat) (z lv : Nat → Int) : Prop where
  bs : Bs w0 w tb len len nb z lv
  r0 : w.cell? ⟨r, 0, none⟩ = some (.int .u8 0)
  r5 : w.cell? ⟨r, 5, none⟩ = some (.slice (some ⟨tb, 0, none⟩) len len)
  d0 : w.cell? ⟨d, 0, none⟩ = some (.pointer (some ⟨r, 0, none⟩))
  sc : ∀ i, i < len → w.cell? ⟨sv, i, none⟩ = some (.pointer (some ⟨nb i, 0, none⟩))
theorem Fin.drewN {w0 w : World} {tb r d sv len : Nat} {nb : Nat → Nat} {z lv : Nat → Int} (s : Fin w0 w tb r d sv len nb z lv) (m : Nat) : Fin w0 (w.drewN m) tb r d sv len nb z lv := ⟨s.bs.drewN m, s.r0, s.r5, s.d0, s.sc⟩

set_option maxRecDepth 100000 in
set_option maxHeartbeats 2000000 in
theorem loop2 {w W : World} {tb r d sv len cap len1 cap1 : Nat} {a0 a1 : Option Addr} {nb : Nat → Nat} {z z1 : Nat → Int} {KK : Act → World → Prop} {RR : Ending → World → Prop} {c : Code} (hc : (findLoop 18 (Yba.f3.body.getD .skip)).getD .skip = c)
    (hl : len ≤ 1048576) (hl1 : len1 ≤ 9223372036854775807) (hs : Fin w W tb r d sv len nb z (lvl z1 len1)) (hr0 : Row w w.heap.size a0 len z) (hr1 : Row w w.heap.size a1 len1 z1)
    (c2 c3 c4 c5 c6 c8 c10 c12 c13 c14 c15 c16 c17 c18 c19 c20 c21 c22 c23 c24 c25 c26 c27 c28 c29 c30 c31 c32 c33 c34 c35 c36 c37 c38 c39 c40 c41 c42 c43 c44 c45 c46 c47 c48 c49 c50 c51 c52 c53 c54 c55 c56 c57 c58 c59 c60 c61 c62 c63 c64 c65 c66 c67 c68 c69 c70 c71 c72 c73 c74 c75 c76 c77 c78 c79 c80 c81 c82 c83 c84 c85 c86 c87 c88 c89 c90 c91 c92 c93 c94 c95 c96 c97 c98 c99 c100 c101 c102 c103 c104 c105 c106 c107 c108 c109 c110 c111 c112 c113 c114 c115 c116 c117 c118 c119 c120 c121 c122 c123 c124 c125 c126 c127 c128 c129 c130 c131 c132 c133 c134 c135 c136 c137 c138 c139 c140 c141 c142 c143 c144 c145 c146 c147 c148 c149 c150 c151 c152 c153 c154 c155 c156 c157 c158 c159 c160 c161 c162 c163 c164 c165 c166 c167 c168 c169 c170 c171 c172 c173 c174 c175 c176 c177 c178 c179 c180 c181 c182 c183 c184 c185 c186 c187 c188 c189 c190 c191 c192 c193 c194 c195 c196 c197 c198 c199 c200 c201 c202 c203 c204 c205 c206 c207 c208 c209 c210 c211 c212 c213 c214 c215 c216 : Value)
    (hK : ∀ (u4 u11 u12 u83 u84 u85 u86 u87 u88 u89 u90 u91 u92 u93 u94 u95 u96 u97 u98 u99 u100 u101 u102 u103 u104 u105 u106 u107 u108 u109 u110 u111 u112 u113 u114 u115 u116 u117 u118 u119 u120 u121 u122 u123 u124 u125 u126 u127 u128 u129 u130 u131 u132 u133 u134 u135 u136 u137 u138 u139 u140 u141 u142 u143 u144 u145 u146 u147 u148 u149 u150 u151 : Value) (m : Nat), KK ⟨(List.toArray ((.slice a0 len cap) :: (.slice a1 len1 cap1) :: c2 :: c3 :: u4 :: c5 :: c6 :: (.pointer (some ⟨r, 0, none⟩)) :: c8 :: (.slice (some ⟨sv, 0, none⟩) len len) :: c10 :: u11 :: u12 :: c13 :: c14 :: c15 :: c16 :: c17 :: c18 :: c19 :: c20 :: c21 :: c22 :: c23 :: c24 :: c25 :: c26 :: c27 :: c28 :: c29 :: c30 :: c31 :: c32 :: c33 :: c34 :: c35 :: c36 :: c37 :: c38 :: c39 :: c40 :: c41 :: c42 :: c43 :: c44 :: c45 :: c46 :: c47 :: c48 :: c49 :: c50 :: c51 :: c52 :: c53 :: c54 :: c55 :: c56 :: c57 :: c58 :: c59 :: c60 :: c61 :: c62 :: c63 :: c64 :: c65 :: c66 :: c67 :: c68 :: c69 :: c70 :: c71 :: c72 :: c73 :: c74 :: c75 :: c76 :: c77 :: c78 :: c79 :: c80 :: c81 :: c82 :: u83 :: u84 :: u85 :: u86 :: u87 :: u88 :: u89 :: u90 :: u91 :: u92 :: u93 :: u94 :: u95 :: u96 :: u97 :: u98 :: u99 :: u100 :: u101 :: u102 :: u103 :: u104 :: u105 :: u106 :: u107 :: u108 :: u109 :: u110 :: u111 :: u112 :: u113 :: u114 :: u115 :: u116 :: u117 :: u118 :: u119 :: u120 :: u121 :: u122 :: u123 :: u124 :: u125 :: u126 :: u127 :: u128 :: u129 :: u130 :: u131 :: u132 :: u133 :: u134 :: u135 :: u136 :: u137 :: u138 :: u139 :: u140 :: u141 :: u142 :: u143 :: u144 :: u145 :: u146 :: u147 :: u148 :: u149 :: u150 :: u151 :: c152 :: c153 :: c154 :: c155 :: c156 :: c157 :: c158 :: c159 :: c160 :: c161 :: c162 :: c163 :: c164 :: c165 :: c166 :: c167 :: c168 :: c169 :: c170 :: c171 :: c172 :: c173 :: c174 :: c175 :: c176 :: c177 :: c178 :: c179 :: c180 :: c181 :: c182 :: c183 :: c184 :: c185 :: c186 :: c187 :: c188 :: c189 :: c190 :: c191 :: c192 :: c193 :: c194 :: c195 :: c196 :: c197 :: c198 :: c199 :: c200 :: c201 :: c202 :: c203 :: c204 :: c205 :: c206 :: c207 :: c208 :: c209 :: c210 :: c211 :: c212 :: c213 :: c214 :: c215 :: c216 :: [])), []⟩ (W.drewN m)) :
    Code.wp Yba.prog c (Exit.inBlock 2 (Exit.then KK (bodyPost Yba.prog Yba.f3 RR))) ⟨(List.toArray ((.slice a0 len cap) :: (.slice a1 len1 cap1) :: c2 :: c3 :: c4 :: c5 :: c6 :: (.pointer (some ⟨r, 0, none⟩)) :: c8 :: (.slice (some ⟨sv, 0, none⟩) len len) :: c10 :: (.int .i64 0) :: c12 :: c13 :: c14 :: c15 :: c16 :: c17 :: c18 :: c19 :: c20 :: c21 :: c22 :: c23 :: c24 :: c25 :: c26 :: c27 :: c28 :: c29 :: c30 :: c31 :: c32 :: c33 :: c34 :: c35 :: c36 :: c37 :: c38 :: c39 :: c40 :: c41 :: c42 :: c43 :: c44 :: c45 :: c46 :: c47 :: c48 :: c49 :: c50 :: c51 :: c52 :: c53 :: c54 :: c55 :: c56 :: c57 :: c58 :: c59 :: c60 :: c61 :: c62 :: c63 :: c64 :: c65 :: c66 :: c67 :: c68 :: c69 :: c70 :: c71 :: c72 :: c73 :: c74 :: c75 :: c76 :: c77 :: c78 :: c79 :: c80 :: c81 :: c82 :: c83 :: c84 :: c85 :: c86 :: c87 :: c88 :: c89 :: c90 :: c91 :: c92 :: c93 :: c94 :: c95 :: c96 :: c97 :: c98 :: c99 :: c100 :: c101 :: c102 :: c103 :: c104 :: c105 :: c106 :: c107 :: c108 :: c109 :: c110 :: c111 :: c112 :: c113 :: c114 :: c115 :: c116 :: c117 :: c118 :: c119 :: c120 :: c121 :: c122 :: c123 :: c124 :: c125 :: c126 :: c127 :: c128 :: c129 :: c130 :: c131 :: c132 :: c133 :: c134 :: c135 :: c136 :: c137 :: c138 :: c139 :: c140 :: c141 :: c142 :: c143 :: c144 :: c145 :: c146 :: c147 :: c148 :: c149 :: c150 :: c151 :: c152 :: c153 :: c154 :: c155 :: c156 :: c157 :: c158 :: c159 :: c160 :: c161 :: c162 :: c163 :: c164 :: c165 :: c166 :: c167 :: c168 :: c169 :: c170 :: c171 :: c172 :: c173 :: c174 :: c175 :: c176 :: c177 :: c178 :: c179 :: c180 :: c181 :: c182 :: c183 :: c184 :: c185 :: c186 :: c187 :: c188 :: c189 :: c190 :: c191 :: c192 :: c193 :: c194 :: c195 :: c196 :: c197 :: c198 :: c199 :: c200 :: c201 :: c202 :: c203 :: c204 :: c205 :: c206 :: c207 :: c208 :: c209 :: c210 :: c211 :: c212 :: c213 :: c214 :: c215 :: c216 :: [])), []⟩ W := by
  subst hc
  conv => arg 2; whnf
  have HS := hide hs
  have HR0 := hide (hr0.below hs.bs.bel)
  have HR1 := hide (hr1.below hs.bs.bel)
  have HK := hide hK
  clear hs hr0 hr1 hK
  go_loopw [11] (fun t wr => ∃ k : Nat, k ≤ len ∧ t = .int .i64 k ∧ ∃ m, wr = W.drewN m) (fun t _ => len - (intOf t).toNat)
  case atStart => exact ⟨0, Nat.zero_le _, rfl, 0, rfl⟩
  case round =>
    obtain ⟨k, hk, rfl, m, rfl⟩ := hrel
    by_cases hkl : k < len
    · obtain ⟨b, off, rfl, hbw, hz, z0, z2⟩ := HR0.out k hkl
      have HZ := hide hz
      have e1 := HS.out.sc k hkl
      have e2 := HS.out.r5
      have e3 := HS.out.bs.cellT k hkl hkl
      have hneq := neq24 (some ⟨nb k, 0, none⟩)
      have hkI : (k : Int) < (len : Int) := by omega
      clear hz
      go_upto_region 23 with (fail)
      refine reg23 (W := W.drewN m) (z := z) (z1 := z1) (k := k) (nk := nb k) (B := w.heap.size) (by kernel_rfl) hl1 hkl (by omega) (by exact HZ.out) z0 (by exact HR1.out) (by exact fun q hq => HS.out.bs.cellB k hkl q hq) _ _ _ _ _ _ _ _ _ _ _ _ _ _ _ _ _ _ _ _ _ _ _ _ _ _ _ _ _ _ _ _ _ _ _ _ _ _ _ _ _ _ _ _ _ _ _ _ _ _ _ _ _ _ _ _ _ _ _ _ _ _ _ _ _ _ _ _ _ _ _ _ _ _ _ _ _ _ _ _ _ _ _ _ _ _ _ _ _ _ _ _ _ _ _ _ _ _ _ _ _ _ _ _ _ _ _ _ _ _ _ _ _ _ _ _ _ _ _ _ _ _ _ _ _ _ _ _ _ _ _ _ _ _ _ _ _ _ _ _ _ _ _ _ _ _ _ _ _ _ _ _ _ _ _ _ _ _ _ _ _ _ _ _ _ _ _ _ _ _ _ _ _ _ _ _ _ _ _ _ _ _ _ _ _ _ _ _ _ _ _ _ _ _ _ _ _ _ _ _ _ _ _ _ _ _ _ _ _ _ _ _ _ ?_
      intro x102 x103 x104 x105 x106 x107 x108 x109 x110 x111 x112 x113 x114 x115 x116 x117 x118 x119 x120 x121 x122 x123 x124 x125 x126 x127 x128 x129 x130 x131 x132 x133 x134 x135 x136 x137 x138 x139 x140 x141 x142 x143 x144 x145 x146 x147 x148 x149 x150 nq
      go_wp2_with fail
      go_roundw
      case rel => exact ⟨k + 1, by omega, by go_num, _, rfl⟩
      case measure => simp [intOf]; omega
    · go_wp2_with fail
      exact HK.out _ _ _ _ _ _ _ _ _ _ _ _ _ _ _ _ _ _ _ _ _ _ _ _ _ _ _ _ _ _ _ _ _ _ _ _ _ _ _ _ _ _ _ _ _ _ _ _ _ _ _ _ _ _ _ _ _ _ _ _ _ _ _ _ _ _ _ _ _ _ _ _ m
end Go.Proofs.Ybulkdpbo
