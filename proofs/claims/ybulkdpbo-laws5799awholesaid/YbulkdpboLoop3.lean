/-
  Seat b5799a: the loop that looks for the end; the loop over the answer; the last region. By an AI agent.
-/
import Derived.Test.YbulkdpboLoop2
namespace Go.Proofs.Ybulkdpbo
open Go.RowKit

set_option maxRecDepth 100000 in
set_option maxHeartbeats 2000000 in
theorem loop3 {W : World} {len cap len1 cap1 B : Nat} {a0 a1 : Option Addr} {z z1 : Nat → Int} {KK : Act → World → Prop} {RR : Ending → World → Prop} {c : Code} (hc : (findLoop 27 (Yba.f3.body.getD .skip)).getD .skip = c)
    (hl : len ≤ 1048576) (hl1 : len1 ≤ 9223372036854775807) (hr0 : Row W B a0 len z) (hr1 : Row W B a1 len1 z1)
    (c2 c3 c4 c5 c6 c7 c8 c9 c10 c11 c12 c15 c16 c17 c18 c19 c20 c21 c22 c23 c24 c25 c26 c27 c28 c29 c30 c31 c32 c33 c34 c35 c36 c37 c38 c39 c40 c41 c42 c43 c44 c45 c46 c47 c48 c49 c50 c51 c52 c53 c54 c55 c56 c57 c58 c59 c60 c61 c62 c63 c64 c65 c66 c67 c68 c69 c70 c71 c72 c73 c74 c75 c76 c77 c78 c79 c80 c81 c82 c83 c84 c85 c86 c87 c88 c89 c90 c91 c92 c93 c94 c95 c96 c97 c98 c99 c100 c101 c102 c103 c104 c105 c106 c107 c108 c109 c110 c111 c112 c113 c114 c115 c116 c117 c118 c119 c120 c121 c122 c123 c124 c125 c126 c127 c128 c129 c130 c131 c132 c133 c134 c135 c136 c137 c138 c139 c140 c141 c142 c143 c144 c145 c146 c147 c148 c149 c150 c151 c152 c153 c154 c155 c156 c157 c158 c159 c160 c161 c162 c163 c164 c165 c166 c167 c168 c169 c170 c171 c172 c173 c174 c175 c176 c177 c178 c179 c180 c181 c182 c183 c184 c185 c186 c187 c188 c189 c190 c191 c192 c193 c194 c195 c196 c197 c198 c199 c200 c201 c202 c203 c204 c205 c206 c207 c208 c209 c210 c211 c212 c213 c214 c215 c216 : Value)
    (hK : ∀ (u14 u152 u153 u154 u155 u156 u157 u158 u159 u160 u161 u162 u163 u164 u165 u166 u167 u168 u169 u170 t13 : Value), (∃ e, IsEnd (headB z (lvl z1 len1)) len e ∧ t13 = if e < len then .int .i64 (e : Int) else .int .i64 (-1)) → KK ⟨(List.toArray ((.slice a0 len cap) :: (.slice a1 len1 cap1) :: c2 :: c3 :: c4 :: c5 :: c6 :: c7 :: c8 :: c9 :: c10 :: c11 :: c12 :: t13 :: u14 :: c15 :: c16 :: c17 :: c18 :: c19 :: c20 :: c21 :: c22 :: c23 :: c24 :: c25 :: c26 :: c27 :: c28 :: c29 :: c30 :: c31 :: c32 :: c33 :: c34 :: c35 :: c36 :: c37 :: c38 :: c39 :: c40 :: c41 :: c42 :: c43 :: c44 :: c45 :: c46 :: c47 :: c48 :: c49 :: c50 :: c51 :: c52 :: c53 :: c54 :: c55 :: c56 :: c57 :: c58 :: c59 :: c60 :: c61 :: c62 :: c63 :: c64 :: c65 :: c66 :: c67 :: c68 :: c69 :: c70 :: c71 :: c72 :: c73 :: c74 :: c75 :: c76 :: c77 :: c78 :: c79 :: c80 :: c81 :: c82 :: c83 :: c84 :: c85 :: c86 :: c87 :: c88 :: c89 :: c90 :: c91 :: c92 :: c93 :: c94 :: c95 :: c96 :: c97 :: c98 :: c99 :: c100 :: c101 :: c102 :: c103 :: c104 :: c105 :: c106 :: c107 :: c108 :: c109 :: c110 :: c111 :: c112 :: c113 :: c114 :: c115 :: c116 :: c117 :: c118 :: c119 :: c120 :: c121 :: c122 :: c123 :: c124 :: c125 :: c126 :: c127 :: c128 :: c129 :: c130 :: c131 :: c132 :: c133 :: c134 :: c135 :: c136 :: c137 :: c138 :: c139 :: c140 :: c141 :: c142 :: c143 :: c144 :: c145 :: c146 :: c147 :: c148 :: c149 :: c150 :: c151 :: u152 :: u153 :: u154 :: u155 :: u156 :: u157 :: u158 :: u159 :: u160 :: u161 :: u162 :: u163 :: u164 :: u165 :: u166 :: u167 :: u168 :: u169 :: u170 :: c171 :: c172 :: c173 :: c174 :: c175 :: c176 :: c177 :: c178 :: c179 :: c180 :: c181 :: c182 :: c183 :: c184 :: c185 :: c186 :: c187 :: c188 :: c189 :: c190 :: c191 :: c192 :: c193 :: c194 :: c195 :: c196 :: c197 :: c198 :: c199 :: c200 :: c201 :: c202 :: c203 :: c204 :: c205 :: c206 :: c207 :: c208 :: c209 :: c210 :: c211 :: c212 :: c213 :: c214 :: c215 :: c216 :: [])), []⟩ W) :
    Code.wp Yba.prog c (Exit.inBlock 4 (Exit.then KK (bodyPost Yba.prog Yba.f3 RR))) ⟨(List.toArray ((.slice a0 len cap) :: (.slice a1 len1 cap1) :: c2 :: c3 :: c4 :: c5 :: c6 :: c7 :: c8 :: c9 :: c10 :: c11 :: c12 :: (.int .i64 (-1)) :: (.int .i64 0) :: c15 :: c16 :: c17 :: c18 :: c19 :: c20 :: c21 :: c22 :: c23 :: c24 :: c25 :: c26 :: c27 :: c28 :: c29 :: c30 :: c31 :: c32 :: c33 :: c34 :: c35 :: c36 :: c37 :: c38 :: c39 :: c40 :: c41 :: c42 :: c43 :: c44 :: c45 :: c46 :: c47 :: c48 :: c49 :: c50 :: c51 :: c52 :: c53 :: c54 :: c55 :: c56 :: c57 :: c58 :: c59 :: c60 :: c61 :: c62 :: c63 :: c64 :: c65 :: c66 :: c67 :: c68 :: c69 :: c70 :: c71 :: c72 :: c73 :: c74 :: c75 :: c76 :: c77 :: c78 :: c79 :: c80 :: c81 :: c82 :: c83 :: c84 :: c85 :: c86 :: c87 :: c88 :: c89 :: c90 :: c91 :: c92 :: c93 :: c94 :: c95 :: c96 :: c97 :: c98 :: c99 :: c100 :: c101 :: c102 :: c103 :: c104 :: c105 :: c106 :: c107 :: c108 :: c109 :: c110 :: c111 :: c112 :: c113 :: c114 :: c115 :: c116 :: c117 :: c118 :: c119 :: c120 :: c121 :: c122 :: c123 :: c124 :: c125 :: c126 :: c127 :: c128 :: c129 :: c130 :: c131 :: c132 :: c133 :: c134 :: c135 :: c136 :: c137 :: c138 :: c139 :: c140 :: c141 :: c142 :: c143 :: c144 :: c145 :: c146 :: c147 :: c148 :: c149 :: c150 :: c151 :: c152 :: c153 :: c154 :: c155 :: c156 :: c157 :: c158 :: c159 :: c160 :: c161 :: c162 :: c163 :: c164 :: c165 :: c166 :: c167 :: c168 :: c169 :: c170 :: c171 :: c172 :: c173 :: c174 :: c175 :: c176 :: c177 :: c178 :: c179 :: c180 :: c181 :: c182 :: c183 :: c184 :: c185 :: c186 :: c187 :: c188 :: c189 :: c190 :: c191 :: c192 :: c193 :: c194 :: c195 :: c196 :: c197 :: c198 :: c199 :: c200 :: c201 :: c202 :: c203 :: c204 :: c205 :: c206 :: c207 :: c208 :: c209 :: c210 :: c211 :: c212 :: c213 :: c214 :: c215 :: c216 :: [])), []⟩ W := by
  subst hc
  conv => arg 2; whnf
  have HR0 := hide hr0
  have HL := hide (fun i => level_any a1 len1 cap1 z1 i B W hr1 hl1)
  have HK := hide hK
  clear hr0 hr1 hK
  go_loopw [13, 14] (fun t13 t wr => ∃ k : Nat, k ≤ len ∧ t = .int .i64 k ∧ t13 = .int .i64 (-1) ∧ wr = W ∧ Hid (∀ j, j < k → headB z (lvl z1 len1) j = false)) (fun _ t _ => len - (intOf t).toNat)
  case atStart => exact ⟨0, Nat.zero_le _, rfl, rfl, rfl, fun j hj => by omega⟩
  case round =>
    obtain ⟨k, hk, rfl, rfl, rfl, HN⟩ := hrel
    by_cases hkl : k < len
    · obtain ⟨b, off, rfl, hbw, hz, z0, z2⟩ := HR0.out k hkl
      have hkI : (k : Int) < (len : Int) := by omega
      cases hp : headB z (lvl z1 len1) k with
      | true =>
        have HE : Hid (IsEnd (headB z (lvl z1 len1)) len k) := ⟨HN.out, .inl ⟨hkl, hp⟩⟩
        simp only [headB, Bool.and_eq_true] at hp
        obtain ⟨b1, b2⟩ := hp
        clear HN
        go_wp2_with (go_at_call 4; refine ((unhide HL) k).mono ?_; rintro e w' ⟨rfl, rfl⟩)
        exact HK.out _ _ _ _ _ _ _ _ _ _ _ _ _ _ _ _ _ _ _ _ _ ⟨k, HE.out, by rw [if_pos hkl]⟩
      | false =>
        have HN2 : Hid (∀ j, j < k + 1 → headB z (lvl z1 len1) j = false) := fun j hj => by
          rcases Nat.lt_or_ge j k with h | h
          · exact HN.out j h
          · obtain rfl : j = k := by omega
            exact hp
        clear HN
        cases b1 : (z k % 12 == 1) with
        | false =>
          clear hp
          go_wp2_with (go_at_call 4; refine ((unhide HL) k).mono ?_; rintro e w' ⟨rfl, rfl⟩)
          go_roundw
          case rel => exact ⟨k + 1, by omega, by go_num, rfl, trivial, HN2⟩
          case measure => simp [intOf]; omega
        | true =>
          have b2 : (lvl z1 len1 k == 2) = false := by
            simp only [headB, b1, Bool.true_and] at hp
            exact hp
          clear hp
          go_wp2_with (go_at_call 4; refine ((unhide HL) k).mono ?_; rintro e w' ⟨rfl, rfl⟩)
          go_roundw
          case rel => exact ⟨k + 1, by omega, by go_num, rfl, trivial, HN2⟩
          case measure => simp [intOf]; omega
    · have HE : Hid (IsEnd (headB z (lvl z1 len1)) len len) := ⟨fun j hj => HN.out j (by omega), .inr rfl⟩
      go_wp2_with fail
      exact HK.out _ _ _ _ _ _ _ _ _ _ _ _ _ _ _ _ _ _ _ _ _ ⟨len, HE.out, by rw [if_neg (Nat.lt_irrefl _)]⟩

set_option maxRecDepth 100000 in
set_option maxHeartbeats 2000000 in
theorem loop4 {W : World} {tb sv len L cp o : Nat} {nb : Nat → Nat} {KK : Act → World → Prop} {RR : Ending → World → Prop} {c : Code} (hc : (findLoop 38 (Yba.f3.body.getD .skip)).getD .skip = c)
    (hl : len ≤ 1048576) (hL : L < len) (ho : 0 < L → o = 1) (ht : ∀ i, i < len → W.cell? ⟨tb, i, none⟩ = some (.pointer (some ⟨nb i, 0, none⟩))) (hsv : ∀ i, i < len → W.cell? ⟨sv, i, none⟩ = some (.pointer (some ⟨nb i, 0, none⟩)))
    (c0 c1 c2 c3 c4 c5 c6 c7 c8 c11 c12 c13 c14 c16 c17 c18 c19 c20 c21 c22 c23 c24 c25 c26 c27 c28 c29 c30 c31 c32 c33 c34 c35 c36 c37 c38 c39 c40 c41 c42 c43 c44 c45 c46 c47 c48 c49 c50 c51 c52 c53 c54 c55 c56 c57 c58 c59 c60 c61 c62 c63 c64 c65 c66 c67 c68 c69 c70 c71 c72 c73 c74 c75 c76 c77 c78 c79 c80 c81 c82 c83 c84 c85 c86 c87 c88 c89 c90 c91 c92 c93 c94 c95 c96 c97 c98 c99 c100 c101 c102 c103 c104 c105 c106 c107 c108 c109 c110 c111 c112 c113 c114 c115 c116 c117 c118 c119 c120 c121 c122 c123 c124 c125 c126 c127 c128 c129 c130 c131 c132 c133 c134 c135 c136 c137 c138 c139 c140 c141 c142 c143 c144 c145 c146 c147 c148 c149 c150 c151 c152 c153 c154 c155 c156 c157 c158 c159 c160 c161 c162 c163 c164 c165 c166 c167 c168 c169 c170 c171 c172 c173 c174 c175 c176 c177 c178 c179 c180 c181 c182 c183 c184 c185 c186 c187 c188 c189 c190 c191 c192 c193 c194 c195 c196 c197 c198 c199 c200 c201 c202 c203 c204 c205 c206 c207 c208 c209 c210 c211 c212 c213 c214 c215 c216 : Value)
    (hK : ∀ (u4 u15 u188 u189 u190 u191 u192 u193 u194 u195 u196 u197 u198 u199 u200 u201 u202 u203 : Value) (m : Nat), KK ⟨(List.toArray (c0 :: c1 :: c2 :: c3 :: u4 :: c5 :: c6 :: c7 :: c8 :: (.slice (some ⟨sv, 0, none⟩) len len) :: (.slice (some ⟨tb, o, none⟩) L cp) :: c11 :: c12 :: c13 :: c14 :: u15 :: c16 :: c17 :: c18 :: c19 :: c20 :: c21 :: c22 :: c23 :: c24 :: c25 :: c26 :: c27 :: c28 :: c29 :: c30 :: c31 :: c32 :: c33 :: c34 :: c35 :: c36 :: c37 :: c38 :: c39 :: c40 :: c41 :: c42 :: c43 :: c44 :: c45 :: c46 :: c47 :: c48 :: c49 :: c50 :: c51 :: c52 :: c53 :: c54 :: c55 :: c56 :: c57 :: c58 :: c59 :: c60 :: c61 :: c62 :: c63 :: c64 :: c65 :: c66 :: c67 :: c68 :: c69 :: c70 :: c71 :: c72 :: c73 :: c74 :: c75 :: c76 :: c77 :: c78 :: c79 :: c80 :: c81 :: c82 :: c83 :: c84 :: c85 :: c86 :: c87 :: c88 :: c89 :: c90 :: c91 :: c92 :: c93 :: c94 :: c95 :: c96 :: c97 :: c98 :: c99 :: c100 :: c101 :: c102 :: c103 :: c104 :: c105 :: c106 :: c107 :: c108 :: c109 :: c110 :: c111 :: c112 :: c113 :: c114 :: c115 :: c116 :: c117 :: c118 :: c119 :: c120 :: c121 :: c122 :: c123 :: c124 :: c125 :: c126 :: c127 :: c128 :: c129 :: c130 :: c131 :: c132 :: c133 :: c134 :: c135 :: c136 :: c137 :: c138 :: c139 :: c140 :: c141 :: c142 :: c143 :: c144 :: c145 :: c146 :: c147 :: c148 :: c149 :: c150 :: c151 :: c152 :: c153 :: c154 :: c155 :: c156 :: c157 :: c158 :: c159 :: c160 :: c161 :: c162 :: c163 :: c164 :: c165 :: c166 :: c167 :: c168 :: c169 :: c170 :: c171 :: c172 :: c173 :: c174 :: c175 :: c176 :: c177 :: c178 :: c179 :: c180 :: c181 :: c182 :: c183 :: c184 :: c185 :: c186 :: c187 :: u188 :: u189 :: u190 :: u191 :: u192 :: u193 :: u194 :: u195 :: u196 :: u197 :: u198 :: u199 :: u200 :: u201 :: u202 :: u203 :: c204 :: c205 :: c206 :: c207 :: c208 :: c209 :: c210 :: c211 :: c212 :: c213 :: c214 :: c215 :: c216 :: [])), []⟩ (W.drewN m)) :
    Code.wp Yba.prog c (Exit.inBlock 6 (Exit.then KK (bodyPost Yba.prog Yba.f3 RR))) ⟨(List.toArray (c0 :: c1 :: c2 :: c3 :: c4 :: c5 :: c6 :: c7 :: c8 :: (.slice (some ⟨sv, 0, none⟩) len len) :: (.slice (some ⟨tb, o, none⟩) L cp) :: c11 :: c12 :: c13 :: c14 :: (.int .i64 0) :: c16 :: c17 :: c18 :: c19 :: c20 :: c21 :: c22 :: c23 :: c24 :: c25 :: c26 :: c27 :: c28 :: c29 :: c30 :: c31 :: c32 :: c33 :: c34 :: c35 :: c36 :: c37 :: c38 :: c39 :: c40 :: c41 :: c42 :: c43 :: c44 :: c45 :: c46 :: c47 :: c48 :: c49 :: c50 :: c51 :: c52 :: c53 :: c54 :: c55 :: c56 :: c57 :: c58 :: c59 :: c60 :: c61 :: c62 :: c63 :: c64 :: c65 :: c66 :: c67 :: c68 :: c69 :: c70 :: c71 :: c72 :: c73 :: c74 :: c75 :: c76 :: c77 :: c78 :: c79 :: c80 :: c81 :: c82 :: c83 :: c84 :: c85 :: c86 :: c87 :: c88 :: c89 :: c90 :: c91 :: c92 :: c93 :: c94 :: c95 :: c96 :: c97 :: c98 :: c99 :: c100 :: c101 :: c102 :: c103 :: c104 :: c105 :: c106 :: c107 :: c108 :: c109 :: c110 :: c111 :: c112 :: c113 :: c114 :: c115 :: c116 :: c117 :: c118 :: c119 :: c120 :: c121 :: c122 :: c123 :: c124 :: c125 :: c126 :: c127 :: c128 :: c129 :: c130 :: c131 :: c132 :: c133 :: c134 :: c135 :: c136 :: c137 :: c138 :: c139 :: c140 :: c141 :: c142 :: c143 :: c144 :: c145 :: c146 :: c147 :: c148 :: c149 :: c150 :: c151 :: c152 :: c153 :: c154 :: c155 :: c156 :: c157 :: c158 :: c159 :: c160 :: c161 :: c162 :: c163 :: c164 :: c165 :: c166 :: c167 :: c168 :: c169 :: c170 :: c171 :: c172 :: c173 :: c174 :: c175 :: c176 :: c177 :: c178 :: c179 :: c180 :: c181 :: c182 :: c183 :: c184 :: c185 :: c186 :: c187 :: c188 :: c189 :: c190 :: c191 :: c192 :: c193 :: c194 :: c195 :: c196 :: c197 :: c198 :: c199 :: c200 :: c201 :: c202 :: c203 :: c204 :: c205 :: c206 :: c207 :: c208 :: c209 :: c210 :: c211 :: c212 :: c213 :: c214 :: c215 :: c216 :: [])), []⟩ W := by
  subst hc
  conv => arg 2; whnf
  have HO := hide ho
  have HT := hide ht
  have HV := hide hsv
  have HK := hide hK
  clear ho ht hsv hK
  go_loopw [15] (fun t wr => ∃ k : Nat, k ≤ L ∧ t = .int .i64 k ∧ ∃ m, wr = W.drewN m) (fun t _ => L - (intOf t).toNat)
  case atStart => exact ⟨0, Nat.zero_le _, rfl, 0, rfl⟩
  case round =>
    obtain ⟨k, hk, rfl, m, rfl⟩ := hrel
    by_cases hkl : k < L
    · obtain rfl := HO.out (by omega)
      have e1 : W.cell? ⟨tb, 1 + k, none⟩ = some (.pointer (some ⟨nb (k + 1), 0, none⟩)) := by rw [Nat.add_comm 1 k]; exact HT.out (k + 1) (by omega)
      have e2 := HV.out (k + 1) (by omega)
      have hkI : (k : Int) < (L : Int) := by omega
      have hkJ : (k : Int) + 1 < (len : Int) := by omega
      have hw1 : IntKind.i64.wrap ((k : Int) + 1) = (k : Int) + 1 := by simp [IntKind.wrap, IntKind.signed, IntKind.bits]; omega
      have hneq := neq24 (some ⟨nb (k + 1), 0, none⟩)
      go_wp2_with fail
      go_quiet (fail)
      go_wp2_with fail
      go_roundw
      case rel => exact ⟨k + 1, by omega, by go_num, _, rfl⟩
      case measure => simp [intOf]; omega
    · go_wp2_with fail
      exact HK.out _ _ _ _ _ _ _ _ _ _ _ _ _ _ _ _ _ _ m

set_option maxRecDepth 100000 in
set_option maxHeartbeats 2000000 in
theorem reg42 {W : World} {tb r len L cp o : Nat} {K1 K2 : Act → World → Prop} {RR : Ending → World → Prop} {c : Code}
    (hc : (findRegion 42 (Yba.f3.body.getD .skip)).getD .skip = c)
    (hL : L < len) (ho : 0 < L → o = 1) (h5 : W.cell? ⟨r, 5, none⟩ = some (.slice (some ⟨tb, 0, none⟩) len len))
    (c0 c1 c2 c3 c4 c5 c6 c8 c9 c11 c12 c13 c14 c15 c16 c17 c18 c19 c20 c21 c22 c23 c24 c25 c26 c27 c28 c29 c30 c31 c32 c33 c34 c35 c36 c37 c38 c39 c40 c41 c42 c43 c44 c45 c46 c47 c48 c49 c50 c51 c52 c53 c54 c55 c56 c57 c58 c59 c60 c61 c62 c63 c64 c65 c66 c67 c68 c69 c70 c71 c72 c73 c74 c75 c76 c77 c78 c79 c80 c81 c82 c83 c84 c85 c86 c87 c88 c89 c90 c91 c92 c93 c94 c95 c96 c97 c98 c99 c100 c101 c102 c103 c104 c105 c106 c107 c108 c109 c110 c111 c112 c113 c114 c115 c116 c117 c118 c119 c120 c121 c122 c123 c124 c125 c126 c127 c128 c129 c130 c131 c132 c133 c134 c135 c136 c137 c138 c139 c140 c141 c142 c143 c144 c145 c146 c147 c148 c149 c150 c151 c152 c153 c154 c155 c156 c157 c158 c159 c160 c161 c162 c163 c164 c165 c166 c167 c168 c169 c170 c171 c172 c173 c174 c175 c176 c177 c178 c179 c180 c181 c182 c183 c184 c185 c186 c187 c188 c189 c190 c191 c192 c193 c194 c195 c196 c197 c198 c199 c200 c201 c202 c203 c204 c205 c206 c207 c208 c209 c210 c211 c212 c213 c214 c215 c216 : Value)
    (hQ : ∀ (v204 v205 v206 v207 v208 v209 v210 v211 v212 v213 v214 v215 : Value) (nq : Nat), K1 ⟨(List.toArray (c0 :: c1 :: c2 :: c3 :: c4 :: c5 :: c6 :: (.pointer (some ⟨r, 0, none⟩)) :: c8 :: c9 :: (.slice (some ⟨tb, o, none⟩) L cp) :: c11 :: c12 :: c13 :: c14 :: c15 :: c16 :: c17 :: c18 :: c19 :: c20 :: c21 :: c22 :: c23 :: c24 :: c25 :: c26 :: c27 :: c28 :: c29 :: c30 :: c31 :: c32 :: c33 :: c34 :: c35 :: c36 :: c37 :: c38 :: c39 :: c40 :: c41 :: c42 :: c43 :: c44 :: c45 :: c46 :: c47 :: c48 :: c49 :: c50 :: c51 :: c52 :: c53 :: c54 :: c55 :: c56 :: c57 :: c58 :: c59 :: c60 :: c61 :: c62 :: c63 :: c64 :: c65 :: c66 :: c67 :: c68 :: c69 :: c70 :: c71 :: c72 :: c73 :: c74 :: c75 :: c76 :: c77 :: c78 :: c79 :: c80 :: c81 :: c82 :: c83 :: c84 :: c85 :: c86 :: c87 :: c88 :: c89 :: c90 :: c91 :: c92 :: c93 :: c94 :: c95 :: c96 :: c97 :: c98 :: c99 :: c100 :: c101 :: c102 :: c103 :: c104 :: c105 :: c106 :: c107 :: c108 :: c109 :: c110 :: c111 :: c112 :: c113 :: c114 :: c115 :: c116 :: c117 :: c118 :: c119 :: c120 :: c121 :: c122 :: c123 :: c124 :: c125 :: c126 :: c127 :: c128 :: c129 :: c130 :: c131 :: c132 :: c133 :: c134 :: c135 :: c136 :: c137 :: c138 :: c139 :: c140 :: c141 :: c142 :: c143 :: c144 :: c145 :: c146 :: c147 :: c148 :: c149 :: c150 :: c151 :: c152 :: c153 :: c154 :: c155 :: c156 :: c157 :: c158 :: c159 :: c160 :: c161 :: c162 :: c163 :: c164 :: c165 :: c166 :: c167 :: c168 :: c169 :: c170 :: c171 :: c172 :: c173 :: c174 :: c175 :: c176 :: c177 :: c178 :: c179 :: c180 :: c181 :: c182 :: c183 :: c184 :: c185 :: c186 :: c187 :: c188 :: c189 :: c190 :: c191 :: c192 :: c193 :: c194 :: c195 :: c196 :: c197 :: c198 :: c199 :: c200 :: c201 :: c202 :: c203 :: v204 :: v205 :: v206 :: v207 :: v208 :: v209 :: v210 :: v211 :: v212 :: v213 :: v214 :: v215 :: (.bool false) :: [])), []⟩ (W.drewN nq)) :
    Code.wp Yba.prog c (Exit.then K1 (Exit.then K2 (bodyPost Yba.prog Yba.f3 RR))) ⟨(List.toArray (c0 :: c1 :: c2 :: c3 :: c4 :: c5 :: c6 :: (.pointer (some ⟨r, 0, none⟩)) :: c8 :: c9 :: (.slice (some ⟨tb, o, none⟩) L cp) :: c11 :: c12 :: c13 :: c14 :: c15 :: c16 :: c17 :: c18 :: c19 :: c20 :: c21 :: c22 :: c23 :: c24 :: c25 :: c26 :: c27 :: c28 :: c29 :: c30 :: c31 :: c32 :: c33 :: c34 :: c35 :: c36 :: c37 :: c38 :: c39 :: c40 :: c41 :: c42 :: c43 :: c44 :: c45 :: c46 :: c47 :: c48 :: c49 :: c50 :: c51 :: c52 :: c53 :: c54 :: c55 :: c56 :: c57 :: c58 :: c59 :: c60 :: c61 :: c62 :: c63 :: c64 :: c65 :: c66 :: c67 :: c68 :: c69 :: c70 :: c71 :: c72 :: c73 :: c74 :: c75 :: c76 :: c77 :: c78 :: c79 :: c80 :: c81 :: c82 :: c83 :: c84 :: c85 :: c86 :: c87 :: c88 :: c89 :: c90 :: c91 :: c92 :: c93 :: c94 :: c95 :: c96 :: c97 :: c98 :: c99 :: c100 :: c101 :: c102 :: c103 :: c104 :: c105 :: c106 :: c107 :: c108 :: c109 :: c110 :: c111 :: c112 :: c113 :: c114 :: c115 :: c116 :: c117 :: c118 :: c119 :: c120 :: c121 :: c122 :: c123 :: c124 :: c125 :: c126 :: c127 :: c128 :: c129 :: c130 :: c131 :: c132 :: c133 :: c134 :: c135 :: c136 :: c137 :: c138 :: c139 :: c140 :: c141 :: c142 :: c143 :: c144 :: c145 :: c146 :: c147 :: c148 :: c149 :: c150 :: c151 :: c152 :: c153 :: c154 :: c155 :: c156 :: c157 :: c158 :: c159 :: c160 :: c161 :: c162 :: c163 :: c164 :: c165 :: c166 :: c167 :: c168 :: c169 :: c170 :: c171 :: c172 :: c173 :: c174 :: c175 :: c176 :: c177 :: c178 :: c179 :: c180 :: c181 :: c182 :: c183 :: c184 :: c185 :: c186 :: c187 :: c188 :: c189 :: c190 :: c191 :: c192 :: c193 :: c194 :: c195 :: c196 :: c197 :: c198 :: c199 :: c200 :: c201 :: c202 :: c203 :: c204 :: c205 :: c206 :: c207 :: c208 :: c209 :: c210 :: c211 :: c212 :: c213 :: c214 :: c215 :: c216 :: [])), []⟩ W := by
  subst hc
  conv => arg 2; whnf
  have HQ := hide hQ
  clear hQ
  by_cases hp : 0 < L
  · obtain rfl := ho hp
    have hpI : (0 : Int) < (L : Int) := by omega
    have h1I : (1 : Int) < (len : Int) := by omega
    have hneq := neq38 (some ⟨tb, 1, none⟩)
    have hdt : decide ((0 : Int) < (L : Int)) = true := by simp; omega
    clear ho
    go_quiet (fail)
    exact HQ.out _ _ _ _ _ _ _ _ _ _ _ _ _
  · obtain rfl : L = 0 := by omega
    clear ho hp
    go_quiet (fail)
    exact HQ.out _ _ _ _ _ _ _ _ _ _ _ _ _

end Go.Proofs.Ybulkdpbo
