/-
  Seat b5799a: the law's walk, put together. By an AI agent.
-/
import Derived.Test.YbulkdpboLoop1
import Derived.Test.YbulkdpboLoop3
import Derived.Laws.CopyOwn
namespace Go.Proofs.Ybulkdpbo
open Go.RowKit

theorem Yba.info24 : (Yba.prog.info? 24).map (fun i => (i.zero, i.size, i.bytes)) = some (some (.pointer none), 1, 8) := by kernel_rfl
theorem wp_gen {P : Program} {c : Code} {Q : Exit → Act → World → Prop} {a : Act} {W : World} (R : World → Prop) (h : R W) (h2 : ∀ w, R w → Code.wp P c Q a w) : Code.wp P c Q a W := h2 W h

set_option maxRecDepth 100000 in
set_option maxHeartbeats 400000 in
theorem law_big (a0 : Option Addr) (len cap : Nat) (v : Value) (w : World) (h : 1048576 < len) (hl : len ≤ 9223372036854775807) :
    Calls Yba.prog 3 #[.slice a0 len cap, v] w fun e w' => e = .returned (.bool true) ∧ w' = w := by
  go_enter Yba.func3, Yba.ntmps3
  go_wp2_with fail
  go_ret
  exact ⟨rfl, rfl⟩

theorem Bs_start (w : World) (len : Nat) (z lv : Nat → Int) : ∃ nb, Bs w (w.alloc (.cells (madeCells #[.pointer none] len) 24)) w.heap.size len 0 nb z lv :=
  ⟨fun _ => 0, (Below.refl _ w).alloc (Nat.le_refl _) _, Nat.le_refl _, ⟨_, World.rowIs_made w (.pointer none) len 24, fun i hi => by omega⟩, fun i hi => by omega, fun i hi => by omega⟩

/-- What 'copy' finds. -/
structure Pre (w0 w : World) (tb r d sv len : Nat) (nb : Nat → Nat) (z lv : Nat → Int) : Prop where
  bs : Bs w0 w tb len len nb z lv
  r0 : w.cell? ⟨r, 0, none⟩ = some (.int .u8 0)
  r5 : w.cell? ⟨r, 5, none⟩ = some (.slice (some ⟨tb, 0, none⟩) len len)
  d0 : w.cell? ⟨d, 0, none⟩ = some (.pointer (some ⟨r, 0, none⟩))
  hs : w.heap[sv]? = some (.cells (List.replicate len (Value.pointer none)).toArray 24 (0, 0))
  rl : r < sv
  dl : d < sv
  tl : tb < sv
  nl : ∀ i, i < len → nb i < sv
  ol : w0.heap.size ≤ sv

theorem Pre.of {w0 w : World} {tb len : Nat} {nb : Nat → Nat} {z lv : Nat → Int} (s : Bs w0 w tb len len nb z lv) (cr cd : Array Value) (h0 : cr[0]? = some (.int .u8 0)) (h5 : cr[5]? = some (.slice (some ⟨tb, 0, none⟩) len len)) (hd : cd[0]? = some (.pointer (some ⟨w.heap.size, 0, none⟩))) :
    Pre w0 (((w.alloc (.cells cr 30)).alloc (.cells cd 36)).alloc (.cells (madeCells #[.pointer none] len) 24)) tb w.heap.size (w.heap.size + 1) (w.heap.size + 2) len nb z lv := by
  have n1 : (w.alloc (.cells cr 30)).heap.size = w.heap.size + 1 := Deep.nblk_alloc _ _
  have n2 : ((w.alloc (.cells cr 30)).alloc (.cells cd 36)).heap.size = w.heap.size + 2 := by rw [Deep.nblk_alloc, n1]
  have b1 : (((w.alloc (.cells cr 30)).alloc (.cells cd 36)).alloc (.cells (madeCells #[.pointer none] len) 24)).heap[w.heap.size]? = some (.cells cr 30) := by
    rw [Deep.blk_alloc_lt _ _ _ (by omega), Deep.blk_alloc_lt _ _ _ (by omega)]; exact Deep.blk_alloc_new _ _
  have b2 : (((w.alloc (.cells cr 30)).alloc (.cells cd 36)).alloc (.cells (madeCells #[.pointer none] len) 24)).heap[w.heap.size + 1]? = some (.cells cd 36) := by
    rw [Deep.blk_alloc_lt _ _ _ (by omega), ← n1]; exact Deep.blk_alloc_new _ _
  refine ⟨((s.alloc _).alloc _).alloc _, ?_, ?_, ?_, ?_, by omega, by omega, by have := s.lt; omega, fun i hi => by have := (s.nd i hi).lt; omega, by have := s.bel.size; omega⟩
  · rw [cell_of_row _ _ _ _ _ _ b1]; exact h0
  · rw [cell_of_row _ _ _ _ _ _ b1]; exact h5
  · rw [cell_of_row _ _ _ _ _ _ b2]; exact hd
  · rw [← n2, Deep.blk_alloc_new]
    rw [← toList_madeCells_one]

theorem splice_whole {α : Type} (L cs : List α) (h : cs.length = L.length) : splice L 0 cs = cs := by
  simp [splice, h]

/-- What 'copy' leaves. -/
theorem Pre.fin {w0 w w' : World} {tb r d sv len : Nat} {nb : Nat → Nat} {z lv : Nat → Int} (s : Pre w0 w tb r d sv len nb z lv)
    (hg : w'.heap[sv]? = some (.cells (splice (List.replicate len (Value.pointer none)) 0 ((List.range len).map fun i => Value.pointer (some ⟨nb i, 0, none⟩))).toArray 24 (0, 0))) (hb : Below sv w w') : Fin w0 w' tb r d sv len nb z lv := by
  refine ⟨?_, ?_, ?_, ?_, ?_⟩
  · exact {
      bel := ⟨hb.os.trans s.bs.bel.os, hb.tape.trans s.bs.bel.tape, hb.output.trans s.bs.bel.output, Nat.le_trans s.bs.bel.size hb.size, fun k hk => (hb.block k (by have := s.ol; omega)).trans (s.bs.bel.block k hk)⟩
      lo := s.bs.lo
      row := by obtain ⟨f, h1, h2⟩ := s.bs.row; exact ⟨f, h1.of_block (hb.block tb s.tl), h2⟩
      nd := fun i hi => (s.bs.nd i hi).of_block (hb.block _ (s.nl i hi))
      nbB := s.bs.nbB }
  · rw [hb.cell (p := ⟨r, 0, none⟩) s.rl]; exact s.r0
  · rw [hb.cell (p := ⟨r, 5, none⟩) s.rl]; exact s.r5
  · rw [hb.cell (p := ⟨d, 0, none⟩) s.dl]; exact s.d0
  · intro i hi
    rw [splice_whole _ _ (by simp)] at hg
    simp [World.cell?, hg, hi]

set_option maxRecDepth 100000 in
set_option maxHeartbeats 4000000 in
theorem law_mid (x0 : Addr) (len cap : Nat) (a1 : Option Addr) (len1 cap1 : Nat) (z z1 : Nat → Int) (w : World) (hl0 : 0 < len) (hl : len ≤ 1048576) (hl1 : len1 ≤ 9223372036854775807) (hr0 : Row w w.heap.size (some x0) len z) (hr1 : Row w w.heap.size a1 len1 z1) :
    Calls Yba.prog 3 #[.slice (some x0) len cap, .slice a1 len1 cap1] w fun e w' => e = .returned (.bool true) ∧ Below w.heap.size w w' := by
  have hm1 := run_make_row' (P := Yba.prog) 23 24 (.pointer none) 8 Yba.underlying23 Yba.info24 rfl .i64 .i64 len (by omega) (by omega)
  have hnn : ∀ V, (binOp .neq 22 (.slice (some x0) len cap) (.slice none 0 0)).run Yba.prog V = .ok (.bool true) V := fun V => run_neq_slice_nil_any V 22 5 (some x0) len cap 0 0 Yba.underlying22
  have HR0 := hide hr0
  have HR1 := hide hr1
  clear hr0 hr1
  go_enter Yba.func3, Yba.ntmps3
  go_wp2_with fail
  refine loop1 (z := z) (z1 := z1) (w := w) (by kernel_rfl) hl hl1 (Bs_start w len z (lvl z1 len1)) HR0.out HR1.out _ _ _ _ _ _ _ _ _ _ _ _ _ _ _ _ _ _ _ _ _ _ _ _ _ _ _ _ _ _ _ _ _ _ _ _ _ _ _ _ _ _ _ _ _ _ _ _ _ _ _ _ _ _ _ _ _ _ _ _ _ _ _ _ _ _ _ _ _ _ _ _ _ _ _ _ _ _ _ _ _ _ _ _ _ _ _ _ _ _ _ _ _ _ _ _ _ _ _ _ _ _ _ _ _ _ _ _ _ _ _ _ _ _ _ _ _ _ _ _ _ _ _ _ _ _ _ _ _ _ _ _ _ _ _ _ _ _ _ _ _ _ _ _ _ _ _ _ _ _ _ _ _ _ _ _ _ _ _ _ _ _ _ _ _ _ _ _ _ _ _ _ _ _ _ _ _ _ _ _ _ _ _ _ _ _ _ _ _ _ _ _ _ _ _ _ _ _ _ _ _ _ _ _ _ _ _ _ _ _ _ _ _ ?_
  intro a6 a24 a25 a26 a27 a28 a29 a30 a31 a32 a33 a34 a35 a36 a37 a38 a39 a40 a41 a42 a43 a44 a45 w2 hn
  obtain ⟨nb, hb⟩ := hn
  have HB := hide hb
  clear hb
  go_upto_region 13 with (fail)
  clear hm1 hnn
  refine wp_gen (fun V => Pre w V w.heap.size w2.heap.size (w2.heap.size + 1) (w2.heap.size + 2) len nb z (lvl z1 len1)) (Pre.of HB.out _ _ rfl rfl rfl) ?_
  clear HB
  intro w3 hp
  obtain ⟨sv, hsv⟩ : ∃ x, x = w2.heap.size + 2 := ⟨_, rfl⟩
  obtain ⟨d, hd⟩ : ∃ x, x = w2.heap.size + 1 := ⟨_, rfl⟩
  have e1 : w2.heap.size + 1 + 1 = sv := by rw [hsv]
  rw [← hsv, ← hd] at hp
  rw [e1, ← hd]
  clear e1 hsv hd
  generalize w2.heap.size = r at *
  have HP := hide hp
  have hh := hp.hs
  have HT := hide (fun (j : Nat) (v : Value) (hj : ((List.range len).map fun i => Value.pointer (some ⟨nb i, 0, none⟩))[j]? = some v) => (show w3.cell? ((⟨w.heap.size, 0, none⟩ : Addr).add j) = some v from by
    have hjl : j < len := by have := (List.getElem?_eq_some_iff.1 hj).1; simpa using this
    rw [Go.WideShapes.add_plain, Nat.zero_add, hp.bs.cellT j hjl hjl, ← hj]
    simp [hjl]))
  obtain ⟨cs, hcs⟩ : ∃ cs, cs = (List.range len).map fun i => Value.pointer (some ⟨nb i, 0, none⟩) := ⟨_, rfl⟩
  have hcl : cs.length = len := by rw [hcs]; simp
  have hc1 : ∀ v ∈ cs, v.oneCell' = true := by
    rw [hcs]; intro v hv; obtain ⟨i, _, rfl⟩ := List.mem_map.1 hv; rfl
  rw [← hcs] at HT
  have HCS := hide hcs
  have HCL := hide hcl
  have HC1 := hide hc1
  have HH := hide hh
  clear hp hh hcs hcl hc1
  go_upto_region 14 with (refine wpList_copy_splice rfl _ _ 23 23 rfl 24 Yba.underlying23 (by kernel_rfl) _ _ _ _ _ _ rfl rfl sv 0 _ 24 HH.out cs ?q1 ?q2 ?q3 HC1.out sv w3 (Below.refl _ _) (Nat.le_refl _) ?_)
  case q1 => rw [HCL.out]; exact (Nat.min_self len).symm
  case q2 => exact fun _ j v hj => by have := HT.out j v hj; rwa [Go.WideShapes.add_plain, Nat.zero_add] at this
  case q3 => rw [HCL.out]; simp
  intro w4 hg4 hb4
  have HF : Hid (Fin w w4 w.heap.size r d sv len nb z (lvl z1 len1)) := HP.out.fin (by rw [← HCS.out]; exact hg4.out) hb4
  clear hg4 hb4 HP HT HCS HCL HC1 HH
  go_wp2_with fail
  refine (headBlocks_any d r w.heap.size len nb z (lvl z1 len1) w4 hl0 hl HF.out.d0 HF.out.r5 (fun i hi => HF.out.bs.cellT i hi hi) (fun i hi => HF.out.bs.cellB i hi 0 (by omega)) (fun i hi => HF.out.bs.cellB i hi 1 (by omega))).mono ?_
  rintro e w5 ⟨f, hf, rfl, rfl⟩
  have HE := hide hf
  clear hf
  have f1 := HF.out.d0
  have f2 := HF.out.r0
  have f3 := HF.out.r5
  have f4 := neq24 (some ⟨r, 0, none⟩)
  generalize hhb : hbV w.heap.size len f = res
  have HRES := hide hhb
  clear hhb
  go_wp2_with fail
  refine loop2 (z := z) (z1 := z1) (w := w) (nb := nb) (by kernel_rfl) hl hl1 HF.out HR0.out HR1.out _ _ _ _ _ _ _ _ _ _ _ _ _ _ _ _ _ _ _ _ _ _ _ _ _ _ _ _ _ _ _ _ _ _ _ _ _ _ _ _ _ _ _ _ _ _ _ _ _ _ _ _ _ _ _ _ _ _ _ _ _ _ _ _ _ _ _ _ _ _ _ _ _ _ _ _ _ _ _ _ _ _ _ _ _ _ _ _ _ _ _ _ _ _ _ _ _ _ _ _ _ _ _ _ _ _ _ _ _ _ _ _ _ _ _ _ _ _ _ _ _ _ _ _ _ _ _ _ _ _ _ _ _ _ _ _ _ _ _ _ _ _ _ _ _ _ _ _ _ _ _ _ _ _ _ _ _ _ _ _ _ _ _ _ _ _ _ _ _ _ _ _ _ _ _ _ _ _ _ _ _ _ _ _ _ _ _ _ _ _ _ _ _ _ _ _ _ _ _ _ _ _ _ _ _ _ _ _ _ _ _ _ ?_
  intro b4 b11 b12 b83 b84 b85 b86 b87 b88 b89 b90 b91 b92 b93 b94 b95 b96 b97 b98 b99 b100 b101 b102 b103 b104 b105 b106 b107 b108 b109 b110 b111 b112 b113 b114 b115 b116 b117 b118 b119 b120 b121 b122 b123 b124 b125 b126 b127 b128 b129 b130 b131 b132 b133 b134 b135 b136 b137 b138 b139 b140 b141 b142 b143 b144 b145 b146 b147 b148 b149 b150 b151 m2
  go_wp2_with fail
  refine loop3 (W := w5.drewN m2) (z := z) (z1 := z1) (B := w.heap.size) (by kernel_rfl) hl hl1 (HR0.out.below (HF.out.drewN m2).bs.bel) (HR1.out.below (HF.out.drewN m2).bs.bel) _ _ _ _ _ _ _ _ _ _ _ _ _ _ _ _ _ _ _ _ _ _ _ _ _ _ _ _ _ _ _ _ _ _ _ _ _ _ _ _ _ _ _ _ _ _ _ _ _ _ _ _ _ _ _ _ _ _ _ _ _ _ _ _ _ _ _ _ _ _ _ _ _ _ _ _ _ _ _ _ _ _ _ _ _ _ _ _ _ _ _ _ _ _ _ _ _ _ _ _ _ _ _ _ _ _ _ _ _ _ _ _ _ _ _ _ _ _ _ _ _ _ _ _ _ _ _ _ _ _ _ _ _ _ _ _ _ _ _ _ _ _ _ _ _ _ _ _ _ _ _ _ _ _ _ _ _ _ _ _ _ _ _ _ _ _ _ _ _ _ _ _ _ _ _ _ _ _ _ _ _ _ _ _ _ _ _ _ _ _ _ _ _ _ _ _ _ _ _ _ _ _ _ _ _ _ _ _ _ _ _ _ _ ?_
  intro d14 d152 d153 d154 d155 d156 d157 d158 d159 d160 d161 d162 d163 d164 d165 d166 d167 d168 d169 d170 t13 ht
  obtain ⟨e, he, ht13⟩ := ht
  have hef := he.unique HE.out
  subst hef
  have hel : e ≤ len := by rcases he.2 with h | h <;> omega
  clear he HE f1 f2 f3 f4
  by_cases he0 : e = 0
  · subst he0
    rw [if_pos hl0] at ht13
    subst ht13
    have hres : res = .slice none 0 0 := by rw [← HRES.out]; rfl
    subst hres
    have hq : ∀ V, (binOp .eql 23 (.slice none 0 0) (.slice none 0 0)).run Yba.prog V = .ok (.bool true) V := fun V => Lib.run_eql_slice_nil V 23 24 none 0 0 0 0 Yba.underlying23
    clear HRES
    go_wp2_with fail
    go_ret
    exact ⟨rfl, (HF.out.bs.drewN _).bel⟩
  obtain ⟨L, rfl⟩ : ∃ L, e = L + 1 := ⟨e - 1, by omega⟩
  have hz1 : (((L : Int) + 1) == 0) = false := by simp; omega
  by_cases hel2 : L + 1 < len
  · rw [if_pos hel2] at ht13
    have ht13' : t13 = .int .i64 ((L : Int) + 1) := by rw [ht13]; go_num
    clear ht13
    subst ht13'
    have hres : res = .slice (some ⟨w.heap.size, if len = 1 then 0 else 1, none⟩) L (len - 1) := by rw [← HRES.out, hbV, if_neg (by omega)]; simp
    have ho : 0 < L → (if len = 1 then 0 else 1) = 1 := fun _ => if_neg (by omega)
    generalize (if len = 1 then 0 else 1) = o at *
    subst hres
    have HO := hide ho
    have hq : ∀ V, (binOp .eql 23 (.slice (some ⟨w.heap.size, o, none⟩) L (len - 1)) (.slice none 0 0)).run Yba.prog V = .ok (.bool false) V := fun V => Lib.run_eql_slice_nil V 23 24 (some ⟨w.heap.size, o, none⟩) L (len - 1) 0 0 Yba.underlying23
    clear ho HRES
    go_wp2_with fail
    refine loop4 (W := w5.drewN m2) (nb := nb) (by kernel_rfl) hl (by omega) HO.out (by exact fun i hi => HF.out.bs.cellT i hi hi) (by exact HF.out.sc) _ _ _ _ _ _ _ _ _ _ _ _ _ _ _ _ _ _ _ _ _ _ _ _ _ _ _ _ _ _ _ _ _ _ _ _ _ _ _ _ _ _ _ _ _ _ _ _ _ _ _ _ _ _ _ _ _ _ _ _ _ _ _ _ _ _ _ _ _ _ _ _ _ _ _ _ _ _ _ _ _ _ _ _ _ _ _ _ _ _ _ _ _ _ _ _ _ _ _ _ _ _ _ _ _ _ _ _ _ _ _ _ _ _ _ _ _ _ _ _ _ _ _ _ _ _ _ _ _ _ _ _ _ _ _ _ _ _ _ _ _ _ _ _ _ _ _ _ _ _ _ _ _ _ _ _ _ _ _ _ _ _ _ _ _ _ _ _ _ _ _ _ _ _ _ _ _ _ _ _ _ _ _ _ _ _ _ _ _ _ _ _ _ _ _ _ _ _ _ _ _ _ _ _ _ _ _ _ _ _ _ _ _ _ ?_
    intro f4 f15 f188 f189 f190 f191 f192 f193 f194 f195 f196 f197 f198 f199 f200 f201 f202 f203 m4
    go_upto_region 42 with (fail)
    refine reg42 (len := len) (by kernel_rfl) (by omega) HO.out (by exact HF.out.r5) _ _ _ _ _ _ _ _ _ _ _ _ _ _ _ _ _ _ _ _ _ _ _ _ _ _ _ _ _ _ _ _ _ _ _ _ _ _ _ _ _ _ _ _ _ _ _ _ _ _ _ _ _ _ _ _ _ _ _ _ _ _ _ _ _ _ _ _ _ _ _ _ _ _ _ _ _ _ _ _ _ _ _ _ _ _ _ _ _ _ _ _ _ _ _ _ _ _ _ _ _ _ _ _ _ _ _ _ _ _ _ _ _ _ _ _ _ _ _ _ _ _ _ _ _ _ _ _ _ _ _ _ _ _ _ _ _ _ _ _ _ _ _ _ _ _ _ _ _ _ _ _ _ _ _ _ _ _ _ _ _ _ _ _ _ _ _ _ _ _ _ _ _ _ _ _ _ _ _ _ _ _ _ _ _ _ _ _ _ _ _ _ _ _ _ _ _ _ _ _ _ _ _ _ _ _ _ _ _ _ _ _ _ _ _ ?_
    intro g204 g205 g206 g207 g208 g209 g210 g211 g212 g213 g214 g215 m42
    go_wp2_with fail
    go_ret
    exact ⟨rfl, (((HF.out.bs.drewN m2).drewN m4).drewN m42).bel⟩
  · rw [if_neg hel2] at ht13
    subst ht13
    have hlL : (len : Int) = (L : Int) + 1 := by omega
    have hz2 : ((len : Int) == 0) = false := by simp; omega
    have hz3 : (L : Int) = (len : Int) - 1 := by omega
    have HLL := hide hlL
    clear hlL hz3 hz1
    have hres : res = .slice (some ⟨w.heap.size, if len = 1 then 0 else 1, none⟩) L (len - 1) := by rw [← HRES.out, hbV, if_neg (by omega)]; simp
    have ho : 0 < L → (if len = 1 then 0 else 1) = 1 := fun _ => if_neg (by omega)
    generalize (if len = 1 then 0 else 1) = o at *
    subst hres
    have HO := hide ho
    have hq : ∀ V, (binOp .eql 23 (.slice (some ⟨w.heap.size, o, none⟩) L (len - 1)) (.slice none 0 0)).run Yba.prog V = .ok (.bool false) V := fun V => Lib.run_eql_slice_nil V 23 24 (some ⟨w.heap.size, o, none⟩) L (len - 1) 0 0 Yba.underlying23
    clear ho HRES
    go_wp2_with fail
    refine loop4 (W := w5.drewN m2) (nb := nb) (by kernel_rfl) hl (by omega) HO.out (by exact fun i hi => HF.out.bs.cellT i hi hi) (by exact HF.out.sc) _ _ _ _ _ _ _ _ _ _ _ _ _ _ _ _ _ _ _ _ _ _ _ _ _ _ _ _ _ _ _ _ _ _ _ _ _ _ _ _ _ _ _ _ _ _ _ _ _ _ _ _ _ _ _ _ _ _ _ _ _ _ _ _ _ _ _ _ _ _ _ _ _ _ _ _ _ _ _ _ _ _ _ _ _ _ _ _ _ _ _ _ _ _ _ _ _ _ _ _ _ _ _ _ _ _ _ _ _ _ _ _ _ _ _ _ _ _ _ _ _ _ _ _ _ _ _ _ _ _ _ _ _ _ _ _ _ _ _ _ _ _ _ _ _ _ _ _ _ _ _ _ _ _ _ _ _ _ _ _ _ _ _ _ _ _ _ _ _ _ _ _ _ _ _ _ _ _ _ _ _ _ _ _ _ _ _ _ _ _ _ _ _ _ _ _ _ _ _ _ _ _ _ _ _ _ _ _ _ _ _ _ _ _ ?_
    intro f4 f15 f188 f189 f190 f191 f192 f193 f194 f195 f196 f197 f198 f199 f200 f201 f202 f203 m4
    go_upto_region 42 with (fail)
    refine reg42 (len := len) (by kernel_rfl) (by omega) HO.out (by exact HF.out.r5) _ _ _ _ _ _ _ _ _ _ _ _ _ _ _ _ _ _ _ _ _ _ _ _ _ _ _ _ _ _ _ _ _ _ _ _ _ _ _ _ _ _ _ _ _ _ _ _ _ _ _ _ _ _ _ _ _ _ _ _ _ _ _ _ _ _ _ _ _ _ _ _ _ _ _ _ _ _ _ _ _ _ _ _ _ _ _ _ _ _ _ _ _ _ _ _ _ _ _ _ _ _ _ _ _ _ _ _ _ _ _ _ _ _ _ _ _ _ _ _ _ _ _ _ _ _ _ _ _ _ _ _ _ _ _ _ _ _ _ _ _ _ _ _ _ _ _ _ _ _ _ _ _ _ _ _ _ _ _ _ _ _ _ _ _ _ _ _ _ _ _ _ _ _ _ _ _ _ _ _ _ _ _ _ _ _ _ _ _ _ _ _ _ _ _ _ _ _ _ _ _ _ _ _ _ _ _ _ _ _ _ _ _ _ _ ?_
    intro g204 g205 g206 g207 g208 g209 g210 g211 g212 g213 g214 g215 m42
    go_wp2_with fail
    go_ret
    exact ⟨rfl, (((HF.out.bs.drewN m2).drewN m4).drewN m42).bel⟩
end Go.Proofs.Ybulkdpbo
