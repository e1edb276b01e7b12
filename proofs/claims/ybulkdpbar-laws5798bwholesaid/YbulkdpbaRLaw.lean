/-
  Seat b5798a: the law's walk, put together. By an AI agent.
-/
import Derived.Test.YbulkdpbaRLoop1
import Derived.Test.YbulkdpbaRLoop2
import Derived.Test.YbulkdpbaRLoop3
import Derived.Test.YbulkdpbaRReg35
import Derived.Test.YbulkdpbaRCount
namespace Go.Proofs.YbulkdpbaR
open Go.RowKit

set_option maxRecDepth 100000 in
set_option maxHeartbeats 400000 in
theorem law_big (ao : Option Addr) (len cap : Nat) (qm qn : Int) (w : World) (h : 1024 < len) (hl : len ≤ 9223372036854775807) :
    Calls Yba.prog 3 #[.slice ao len cap, .int .u8 qm, .int .u8 qn] w fun e w' => e = .returned (.bool true) ∧ w' = w := by
  go_enter Yba.func3, Yba.ntmps3
  go_wp2_with fail
  go_ret
  exact ⟨rfl, rfl⟩

theorem find_named (K N M P : Nat → Int) (len qm : Nat) (qn : ByteArray) (f i : Nat) :
    (Pl.flatF (keepB (kdF K)) (downB (kdF K)) (chF P len) f i).find? (matchB M N qm qn) = Pl.namedF (hitB (kdF K) (nmF N) (fun c => miF M c == qm) qn) (downB (kdF K)) (chF P len) f i :=
  Pl.flatF_find (keepB (kdF K)) (downB (kdF K)) (matchB M N qm qn) (chF P len) f i

set_option maxRecDepth 100000 in
set_option maxHeartbeats 4000000 in
theorem law_small (ao : Option Addr) (len cap : Nat) (qm qn : Int) (w : World) (h : len ≤ 1024) (q0 : 0 ≤ qm) (_q1 : qm ≤ 255) (q2 : 0 ≤ qn) (q3 : qn ≤ 255) (K N M P : Nat → Int)
    (hcell : ∀ j, j < len → ∃ b off, ao = some ⟨b, off, none⟩ ∧ b < w.heap.size ∧ w.cell? ⟨b, off + j * 4, none⟩ = some (.int .u8 (K j)) ∧ w.cell? ⟨b, off + j * 4 + 1, none⟩ = some (.int .u8 (N j)) ∧ w.cell? ⟨b, off + j * 4 + 2, none⟩ = some (.int .u8 (M j)) ∧ w.cell? ⟨b, off + j * 4 + 3, none⟩ = some (.int .u16 (P j)))
    (hbd : ∀ j, j < len → 0 ≤ K j ∧ K j ≤ 255 ∧ 0 ≤ N j ∧ N j ≤ 255 ∧ 0 ≤ M j ∧ M j ≤ 255 ∧ 0 ≤ P j ∧ P j ≤ 65535) :
    Calls Yba.prog 3 #[.slice ao len cap, .int .u8 qm, .int .u8 qn] w fun e w' => e = .returned (.bool true) ∧ Below w.heap.size w w' := by
  have hm1 := run_make_row' (P := Yba.prog) 32 36 (.pointer none) 8 Yba.underlying32 Yba.info36 rfl .i64 .i64 (len + 1) (by omega) (by omega)
  have hm2 := run_make_row' (P := Yba.prog) 33 37 (.int .i64 0) 8 Yba.underlying33 Yba.info37 rfl .i64 .i64 (len + 1) (by omega) (by omega)
  have hm3 := run_make_row' (P := Yba.prog) 26 9 (.string ⟨#[]⟩) 16 Yba.underlying26 Yba.info9 rfl .i64 .i64 (len + 1) (by omega) (by omega)
  have hm4 := run_make_row' (P := Yba.prog) 34 3 (.int .i64 0) 8 Yba.underlying34 Yba.info3 rfl .i64 .i64 (len + 1) (by omega) (by omega)
  have hm5 := run_make_row' (P := Yba.prog) 35 34 (.slice none 0 0) 24 Yba.underlying35 Yba.info34 rfl .i64 .i64 (len + 1) (by omega) (by omega)
  have ec : ((len + 1 : Nat) : Int) = (len : Int) + 1 := by omega
  rw [ec] at hm1 hm2 hm3 hm4 hm5
  clear ec
  have HC := hide hcell
  have HB := hide hbd
  clear hcell hbd
  go_enter Yba.func3, Yba.ntmps3
  go_upto_region 10 with (fail)
  clear hm1 hm2 hm3 hm4 hm5
  refine wp_gen (fun W => St w W w.heap.size (w.heap.size + 1) (w.heap.size + 2) (fun r => w.heap.size + 3 + r) (w.heap.size + 8) (len + 1) 0 zeroF (fun _ => 0) (fun _ _ => .bool false) (chF P 0) (chF P 0)) (St_start w (len + 1) _ _ _ _ _ (fun _ => rfl)) ?_
  intro w1 hst
  obtain ⟨tb, htb⟩ : ∃ tb : Nat → Nat, tb = fun r => w.heap.size + 3 + r := ⟨_, rfl⟩
  obtain ⟨B, hB⟩ : ∃ B : Nat, B = w.heap.size + 8 := ⟨_, rfl⟩
  obtain ⟨m1, hm1⟩ : ∃ m : Nat, m = w.heap.size + 1 := ⟨_, rfl⟩
  obtain ⟨m0, hm0⟩ : ∃ m : Nat, m = w.heap.size := ⟨_, rfl⟩
  obtain ⟨bm, hbm⟩ : ∃ m : Nat, m = w.heap.size + 2 := ⟨_, rfl⟩
  have e4 : w.heap.size + 1 + 1 + 1 + 1 + 1 + 1 + 1 = tb 4 := by rw [htb]
  have e3 : w.heap.size + 1 + 1 + 1 + 1 + 1 + 1 = tb 3 := by rw [htb]
  have e2 : w.heap.size + 1 + 1 + 1 + 1 + 1 = tb 2 := by rw [htb]
  have e1 : w.heap.size + 1 + 1 + 1 + 1 = tb 1 := by rw [htb]
  have e0 : w.heap.size + 1 + 1 + 1 = tb 0 := by rw [htb]
  have e5 : w.heap.size + 1 + 1 = bm := by rw [hbm]
  have e6 : w.heap.size + 1 = m1 := by rw [hm1]
  rw [← htb, ← hB, ← hbm, ← hm1] at hst
  rw [e4, e3, e2, e1, e0, e5, e6]
  clear e0 e1 e2 e3 e4 e5 e6 htb hB hbm hm1
  have hst' : St w w1 m0 m1 bm tb B (len + 1) 0 zeroF (fun _ => 0) (fun _ _ => .bool false) (chF P 0) (chF P 0) := by rw [hm0]; exact hst
  clear hst
  clear hm0
  have hz := hst'.cellT 0 (by omega) 0 (by omega)
  have hz2 := hst'.freeT 0 (by omega) 0
  have hal : ∀ o, (w1.alloc o).cell? ⟨tb 0, 0, none⟩ = some (.pointer none) := fun o => (hst'.alloc o).cellT 0 (by omega) 0 (by omega)
  have haf : ∀ o, (w1.alloc o).frozen? ⟨tb 0, 0, none⟩ = false := fun o => (hst'.alloc o).freeT 0 (by omega) 0
  go_upto_region 11 with (fail)
  refine wp_gen (fun W => ∃ F nb nf, St w W m0 m1 bm tb B (len + 1) 1 F nb nf (chF P 0) (chF P 0) ∧ F 0 0 = .pointer (some ⟨nb 0, 0, none⟩) ∧ nf 0 0 = .int .i64 1 ∧ nf 0 1 = .string ⟨#[114]⟩ ∧ nf 0 2 = .pointer none) hst'.root ?_
  clear hst' hz hz2 hal haf
  intro w2 hR
  obtain ⟨F, nb, nf, hst, t0, t4, t5, t6⟩ := hR
  have hz := hst.cellT 1 (by omega) 0 (by omega)
  have hz2 := hst.freeT 1 (by omega) 0
  have T0 := hide t0; have T4 := hide t4; have T5 := hide t5; have T6 := hide t6
  clear t0 t4 t5 t6
  go_upto_region 12 with (fail)
  refine wp_gen (fun W => St w W m0 m1 bm tb B (len + 1) 1 _ nb nf (chF P 0) (chF P 0)) (hst.set 1 (by omega) 0 (.int .i64 1)) ?_
  clear hst hz hz2
  intro w3 hst
  have hz := hst.cellT 2 (by omega) 0 (by omega)
  have hz2 := hst.freeT 2 (by omega) 0
  go_upto_region 13 with (fail)
  refine wp_gen (fun W => St w W m0 m1 bm tb B (len + 1) 1 _ nb nf (chF P 0) (chF P 0)) (hst.set 2 (by omega) 0 (.string ⟨#[114]⟩)) ?_
  clear hst hz hz2
  intro w4 hst
  have hz := hst.cellT 3 (by omega) 0 (by omega)
  have hz2 := hst.freeT 3 (by omega) 0
  go_upto_region 14 with (fail)
  refine wp_gen (fun W => ∃ F nb nf, St w W m0 m1 bm tb B (len + 1) 1 F nb nf (chF P 0) (chF P 0) ∧ Tabs K N M m0 m1 0 F nb nf) ?_ ?_
  · exact ⟨_, _, _, hst.set 3 (by omega) 0 (.int .i64 2), Tabs_zero T0.out rfl rfl rfl T4.out T5.out T6.out⟩
  clear hst hz hz2 T0 T4 T5 T6
  clear F nb nf
  intro w5 hR
  have HR := hide hR
  clear hR
  go_wp2_with fail
  have hq : qm % 3 = ((qm % 3).toNat : Int) := by omega
  have hq3 : (qm % 3).toNat < 3 := by omega
  have HQ0 := hide hq
  clear hq
  refine loop1 (K := K) (N := N) (M := M) (P := P) (by kernel_rfl) h HR.out HC.out HB.out _ _ _ _ _ _ _ _ _ _ _ _ _ _ _ _ _ _ _ _ _ _ _ _ _ _ _ _ _ _ _ _ _ _ _ _ _ _ _ _ _ _ _ _ _ _ _ _ _ _ _ _ _ _ _ _ _ _ _ _ _ _ _ _ _ _ _ _ _ _ _ _ _ _ _ _ _ _ _ _ _ _ _ _ _ _ _ _ _ _ _ _ _ _ _ _ _ _ _ _ _ _ _ _ _ _ _ _ _ _ _ _ _ _ _ _ _ _ _ _ _ _ _ _ _ _ _ _ _ _ _ _ _ _ _ _ _ _ _ _ _ _ _ _ _ _ _ _ _ _ _ _ _ _ _ _ _ _ _ _ _ _ _ _ _ _ _ _ _ _ _ _ _ _ _ _ _ _ _ _ _ _ _ _ _ _ _ _ _ _ _ _ _ _ _ _ _ _ _ _ _ _ _ _ _ _ _ _ _ _ _ _ _ _ _ _ _ _ _ _ _ _ _ _ _ _ _ _ _ _ _ _ _ _ _ _ _ _ _ _ _ _ _ _ _ _ _ _ _ _ _ _ _ _ _ _ _ _ _ _ ?_
  clear HR HC HB
  intro a14 a15 a16 a17 a61 a62 a63 a64 a65 a66 a67 a68 a69 a70 a71 a72 a73 a74 a75 a76 a77 a78 a79 a80 a81 a82 a83 a84 a85 a86 a87 a88 a89 a90 a91 a92 a93 a94 a95 a96 a97 a98 a99 a100 a101 a102 a103 a104 a105 a106 a107 a108 a109 a110 a111 a112 a113 a114 a115 a116 a117 a118 a119 a120 a121 a122 a123 a124 a125 a126 a127 a128 a129 a130 a131 a132 a133 a134 a135 a136 a137 a138 a139 a140 a141 a142 a143 a144 a145 w6 hR
  obtain ⟨F, nb, nf, hst, htab⟩ := hR
  have HS := hide hst
  have HT := hide htab
  clear hst htab
  have hq := HQ0.out
  generalize (qm % 3).toNat = qmN at *
  go_wp2_with fail
  refine (name_any _ _ q2 q3).mono ?_
  rintro e w7 ⟨rfl, rfl⟩
  go_wp2_with fail
  refine (flat_any w7 w7.heap.size (len + 1) (tb 4) (tb 1) (kdF K) (chF P len) (HS.out.kids HT.out h) (len + 1) 0 (.slice none 0 0) [] w7 (by omega) (by omega) (Below.refl _ _) (Nat.le_refl _) (World.ownsRow_nil _ _ _ _) (by have := flat_len P (keepB (kdF K)) (downB (kdF K)) len (len + 1) 0 (by omega); simp; omega)).mono ?_
  rintro e w8 ⟨v, rfl, hown, hbel, _⟩
  rw [List.nil_append] at hown
  have hxl := flat_len P (keepB (kdF K)) (downB (kdF K)) len (len + 1) 0 (by omega)
  have hxm := Pl.flatF_mem (keepB (kdF K)) (downB (kdF K)) (chF P len) (len + 1) (fun j _ c hc => by have := chF_mem P len j c hc; omega) (len + 1) 0 (by omega)
  have hfn := find_named K N M P len qmN (nameOf qn) (len + 1) 0
  generalize Pl.flatF (keepB (kdF K)) (downB (kdF K)) (chF P len) (len + 1) 0 = xs at *
  have HV := hide (ints_of_own hown (Nat.le_refl _))
  obtain ⟨ao2, cp2, rfl⟩ := own_form hown
  have HS8 := hide (HS.out.below hbel)
  have HXM := hide hxm
  have HFN := hide hfn
  clear hown hbel HS hxm hfn
  go_wp2_with fail
  refine loop2 (qm := qmN) (qn := nameOf qn) (by kernel_rfl) h HS8.out HT.out HV.out HXM.out (by omega) _ _ _ _ _ _ _ _ _ _ _ _ _ _ _ _ _ _ _ _ _ _ _ _ _ _ _ _ _ _ _ _ _ _ _ _ _ _ _ _ _ _ _ _ _ _ _ _ _ _ _ _ _ _ _ _ _ _ _ _ _ _ _ _ _ _ _ _ _ _ _ _ _ _ _ _ _ _ _ _ _ _ _ _ _ _ _ _ _ _ _ _ _ _ _ _ _ _ _ _ _ _ _ _ _ _ _ _ _ _ _ _ _ _ _ _ _ _ _ _ _ _ _ _ _ _ _ _ _ _ _ _ _ _ _ _ _ _ _ _ _ _ _ _ _ _ _ _ _ _ _ _ _ _ _ _ _ _ _ _ _ _ _ _ _ _ _ _ _ _ _ _ _ _ _ _ _ _ _ _ _ _ _ _ _ _ _ _ _ _ _ _ _ _ _ _ _ _ _ _ _ _ _ _ _ _ _ _ _ _ _ _ _ _ _ _ _ _ _ _ _ _ _ _ _ _ _ _ _ _ _ _ _ _ _ _ _ _ _ _ _ _ _ _ _ _ _ _ _ _ _ _ _ _ _ _ _ _ ?_
  clear HV
  intro b22 b155 b156 b157 b158 b159 b160 b161 b162 b163 b164 b165 b166 b167 b168 b169 b170 b171 b172 b173 b174 b175 b176 b177 t20 ht20
  have HT20 := hide ht20
  clear ht20
  go_upto_region 35 with (fail)
  refine reg35 (by kernel_rfl) h hq3 HS8.out HT.out _ _ _ _ _ _ _ _ _ _ _ _ _ _ _ _ _ _ _ _ _ _ _ _ _ _ _ _ _ _ _ _ _ _ _ _ _ _ _ _ _ _ _ _ _ _ _ _ _ _ _ _ _ _ _ _ _ _ _ _ _ _ _ _ _ _ _ _ _ _ _ _ _ _ _ _ _ _ _ _ _ _ _ _ _ _ _ _ _ _ _ _ _ _ _ _ _ _ _ _ _ _ _ _ _ _ _ _ _ _ _ _ _ _ _ _ _ _ _ _ _ _ _ _ _ _ _ _ _ _ _ _ _ _ _ _ _ _ _ _ _ _ _ _ _ _ _ _ _ _ _ _ _ _ _ _ _ _ _ _ _ _ _ _ _ _ _ _ _ _ _ _ _ _ _ _ _ _ _ _ _ _ _ _ _ _ _ _ _ _ _ _ _ _ _ _ _ _ _ _ _ _ _ _ _ _ _ _ _ _ _ _ _ _ _ _ _ _ _ _ _ _ _ _ _ _ _ _ _ _ _ _ _ _ _ _ _ _ _ _ _ _ _ _ _ _ _ _ _ _ _ _ _ _ _ _ _ _ _ _ _ _ _ _ _ ?_
  intro d178 d179 d180 d181 d182 d183 d184 d185 d186 nq
  have ht20 := HT20.out
  rw [HFN.out] at ht20
  generalize Pl.namedF (hitB (kdF K) (nmF N) (fun c => miF M c == qmN) (nameOf qn)) (downB (kdF K)) (chF P len) (len + 1) 0 = r at *
  obtain ⟨tj, htj, _⟩ := Option.map_eq_some_iff.1 Yba.size45
  have hne : ∀ (x : Option Addr) V, (binOp .neq 36 (.pointer x) (.pointer x)).run Yba.prog V = .ok (.bool false) V := fun x V => run_neq_ptr_same V x Yba.underlying36 htj
  clear htj HT20 HFN HXM
  obtain ⟨pv, hpv⟩ : ∃ x : Option Addr, ptrOf nb r = .pointer x := by cases r <;> exact ⟨_, rfl⟩
  rw [hpv] at ht20 ⊢
  subst ht20
  have hneq := hne pv
  clear hne hpv
  go_wp2_with fail
  refine loop3 (P := P) (by kernel_rfl) h (HS8.out.drewN nq) HT.out _ _ _ _ _ _ _ _ _ _ _ _ _ _ _ _ _ _ _ _ _ _ _ _ _ _ _ _ _ _ _ _ _ _ _ _ _ _ _ _ _ _ _ _ _ _ _ _ _ _ _ _ _ _ _ _ _ _ _ _ _ _ _ _ _ _ _ _ _ _ _ _ _ _ _ _ _ _ _ _ _ _ _ _ _ _ _ _ _ _ _ _ _ _ _ _ _ _ _ _ _ _ _ _ _ _ _ _ _ _ _ _ _ _ _ _ _ _ _ _ _ _ _ _ _ _ _ _ _ _ _ _ _ _ _ _ _ _ _ _ _ _ _ _ _ _ _ _ _ _ _ _ _ _ _ _ _ _ _ _ _ _ _ _ _ _ _ _ _ _ _ _ _ _ _ _ _ _ _ _ _ _ _ _ _ _ _ _ _ _ _ _ _ _ _ _ _ _ _ _ _ _ _ _ _ _ _ _ _ _ _ _ _ _ _ _ _ _ _ _ _ _ _ _ _ _ _ _ _ _ _ _ _ _ _ _ _ _ _ _ _ _ _ _ _ _ _ _ _ _ _ _ _ _ _ _ _ _ _ _ _ ?_
  intro e6 e24 e25 e26 e27 e190 e191 e192 e193 e194 e195 e196 e197 e198 e199 e200 e201 e202 e203 e204 e205 e206 e207 e208 e209 e210 e211 e212 e213 e214 e215 e216 e217 e218 e219 e220 e221 e222 e223 e224 e225 e226 e227 e228 e229 e230 e231 e232 e233 e234 e235 e236 e237 e238 e239 e240 e241 e242 e243 e244 e245 e246 e247 e248 e249 e250 e251 e252 e253 e254 e255 e256 e257 e258 e259 e260 e261 e262 e263 e264 e265 e266 e267 e268 mq
  go_wp2_with fail
  go_ret
  exact ⟨rfl, ((HS8.out.drewN nq).drewN mq).bel⟩
end Go.Proofs.YbulkdpbaR
