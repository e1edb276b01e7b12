/-
  Seat b5800aF: the law by its contract. By an AI agent.
-/
import Derived.Test.YbulkdpccFmtPage
namespace Go.Proofs.YbulkdpccFmt
open Go.RowKit Go.Extern.Stop Go.Stop Go.Extern

theorem made_rep (v : Value) (n : Nat) : madeCells #[v] n = (List.replicate n v).toArray := by
  apply Array.ext
  · simp [madeCells]
  · intro i h1 h2; simp [madeCells, Nat.mod_one]

theorem page_splice {w : World} {pb len : Nat} {z : Nat → Int} (h : w.heap[pb]? = some (.cells (splice (List.replicate len (Value.int .u8 0)) 0 ((List.range len).map fun i => Value.int .u8 (z i))).toArray 5 (0, 0))) : Page w pb len z := by
  refine ⟨_, h, ?_, fun i hi => ?_⟩
  · simp [splice]
  · simp [splice, hi]

theorem Page.below {B : Nat} {w w' : World} {pb m : Nat} {z : Nat → Int} (h : Page w pb m z) (k : Below B w w') (hB : pb < B) : Page w' pb m z := h.of_block (k.block _ hB)

/-- What stands behind the copy. -/
structure Two (w W : World) (m : Nat) (f : Nat → Int) (kb : Nat) : Prop where
  below : Below w.heap.size w W
  page : Page W w.heap.size m f
  keep : Page W kb m f
  h1 : w.heap.size < W.heap.size
  h2 : kb < W.heap.size

theorem Two.on {w W W' : World} {m : Nat} {f : Nat → Int} {kb : Nat} (h : Two w W m f kb) (k : Below W.heap.size W W') : Two w W' m f kb :=
  ⟨h.below.trans (k.mono h.below.size), h.page.below k h.h1, h.keep.below k h.h2, Nat.lt_of_lt_of_le h.h1 k.size, Nat.lt_of_lt_of_le h.h2 k.size⟩

set_option maxRecDepth 20000 in
set_option maxHeartbeats 4000000 in
theorem law_main (F : Interp) (a : Option Addr) (len cap bm : Nat) (force : Bool) (n : Int) (z : Nat → Int) (b : Addr) (t : ByteArray) (w : World) (hl1 : len ≤ 1048576) (hr : Row w a len z) (hF : F.answers w.tape)
    (hg : w.cell? ⟨0, 0, none⟩ = some (.iface 59 (.pointer (some b)))) (hb : w.cell? b = some (.string t)) (hmp : w.cell? ⟨2, 0, none⟩ = some (.map (some bm)))
    (hl : ∀ W, Below w.heap.size w W → ∃ s, (Instr.lookup 42 (.map (some bm)) (.int .u8 3) false).run Ybaf.prog W = .ok (.string s) W) :
    Calls Ybaf.prog 3 #[.slice a len cap, .bool force, .int .u32 n] w fun e w' => e = .returned (.bool true) ∧ Below w.heap.size w w' := by
  obtain ⟨m, hm⟩ : ∃ m, m = if len < 8 then 8 else len := ⟨_, rfl⟩
  have h8 : 8 ≤ m := by rw [hm]; split <;> omega
  have hml : m ≤ 1048576 := by rw [hm]; split <;> omega
  have hm1 := run_make_row' (P := Ybaf.prog) 22 5 (.int .u8 0) 1 Ybaf.underlying22 Ybaf.info5 rfl .i64 .i64 m (by omega) (by omega)
  have HR := hide hr
  have HM := hide hm
  have HF := hide hF
  have HG := hide hg
  have HB := hide hb
  have HMP := hide hmp
  have HL := hide hl
  clear hr hm hF hg hb hmp hl
  have hlI : ¬ (1048576 : Int) < (len : Int) := by omega
  have i0 : (0 : Int) < (m : Int) := by omega
  have i4 : (4 : Int) < (m : Int) := by omega
  have i5 : (5 : Int) < (m : Int) := by omega
  have i6 : (6 : Int) < (m : Int) := by omega
  have i7 : (7 : Int) < (m : Int) := by omega
  go_enter Ybaf.func3, Ybaf.ntmps3
  go_upto_region 5 with (go_at_call 4; go_must (refine (page_any a len cap m force z w hl1 HR.out HM.out).mono ?_); rintro e w1 ⟨rfl, hp⟩; have HP := hide hp; clear hp)
  rw [made_rep]
  refine wp_gen (fun W => W = w1.alloc (.cells (List.replicate m (Value.int .u8 0)).toArray 5)) rfl ?_
  intro w2 hw2
  obtain ⟨f, hf⟩ := HP.out.page
  have hlt : w.heap.size < w1.heap.size := by obtain ⟨c, h, _⟩ := hf; exact (Array.getElem?_eq_some_iff.1 h).1
  have hb2 : Below w1.heap.size w1 w2 := by rw [hw2]; exact (Below.refl _ w1).alloc (Nat.le_refl _) _
  have hp2 : w2.heap[w1.heap.size]? = some (.cells (List.replicate m (Value.int .u8 0)).toArray 5 (0, 0)) := by rw [hw2]; exact Deep.blk_alloc_new _ _
  have hz2 : w2.heap.size = w1.heap.size + 1 := by rw [hw2]; exact Deep.nblk_alloc _ _
  have hf2 : Page w2 w.heap.size m f := hf.below hb2 hlt
  have hbw : Below w.heap.size w w2 := HP.out.below.trans (hb2.mono (Nat.le_of_lt hlt))
  obtain ⟨cs, hcs⟩ : ∃ cs : List Value, cs = (List.range m).map fun i => Value.int .u8 (f i) := ⟨_, rfl⟩
  have q1 : cs.length = Nat.min m m := by rw [hcs]; simp
  have q2 : 0 < cs.length → some (⟨w1.heap.size, 0, none⟩ : Addr) = some ⟨w1.heap.size, 0, none⟩ ∧ ∃ ad, some (⟨w.heap.size, 0, none⟩ : Addr) = some ad ∧ ∀ j v, cs[j]? = some v → w2.cell? (ad.add j) = some v := by
    intro _
    refine ⟨rfl, _, rfl, fun j v hj => ?_⟩
    have hjl : j < m := by have := (List.getElem?_eq_some_iff.1 hj).1; rw [hcs] at this; simpa using this
    rw [Go.WideShapes.add_plain, Nat.zero_add, hf2.cell hjl, ← hj, hcs, List.getElem?_map, List.getElem?_range hjl]; rfl
  have q3 : 0 + cs.length ≤ (List.replicate m (Value.int .u8 0)).length := by rw [hcs]; simp
  have q4 : ∀ v ∈ cs, v.oneCell' = true := by rw [hcs]; intro v hv; obtain ⟨i, _, rfl⟩ := List.mem_map.1 hv; rfl
  have Q1 := hide q1
  have Q2 := hide q2
  have Q3 := hide q3
  have Q4 := hide q4
  have HCS := hide hcs
  have HP2 := hide hp2
  have HZ2 := hide hz2
  have HF2 := hide hf2
  have HBW := hide hbw
  have HLT := hide hlt
  clear q1 q2 q3 q4 hcs hp2 hz2 hf2 hbw hb2 hf hw2 HP hlt
  go_upto_region 6 with (refine wpList_copy_splice rfl _ _ 22 22 rfl 5 Ybaf.underlying22 (by kernel_rfl) _ _ _ _ _ _ rfl rfl w1.heap.size 0 _ 5 HP2.out cs Q1.out Q2.out Q3.out Q4.out w1.heap.size w2 (Below.refl _ _) (Nat.le_refl _) ?_)
  intro w3 hp3 hb3
  have ht3 : Two w w3 m f w1.heap.size := by
    have hz := HZ2.out
    have hlt := HLT.out
    have hs := hb3.size
    exact ⟨HBW.out.trans (hb3.mono (Nat.le_of_lt hlt)), HF2.out.below hb3 hlt, page_splice (by rw [HCS.out] at hp3; exact hp3.out), by omega, by omega⟩
  have HT := hide ht3
  generalize w1.heap.size = kb at *
  clear ht3 hp3 hb3 Q1 Q2 Q3 Q4 HCS HP2 HZ2 HF2 HBW HLT
  by_cases h3 : f 0 = 3
  · go_upto_region 7 with (go_at_call 5; go_must (refine (decode_ok w.heap.size m f n w3 h8 HT.out.page h3).mono ?_); rintro e w4 ⟨v, hv, rfl, hb4⟩; have HV := hide hv.out; have HT4 := hide (HT.out.on hb4); clear hv hb4)
    go_upto_region 9 with (fail)
    go_wp2_with fail
    go_loopw [11] (fun t wr => ∃ k : Nat, k ≤ m ∧ t = .int .i64 k ∧ ∃ q, wr = w4.drewN q) (fun t _ => m - (intOf t).toNat)
    case atStart => exact ⟨0, Nat.zero_le _, rfl, 0, rfl⟩
    case round =>
      obtain ⟨k, hk, rfl, q, rfl⟩ := hrel
      by_cases hkl : k < m
      · have hkI : (k : Int) < (m : Int) := by omega
        have cp := HT4.out.page.cell hkl
        have ck := HT4.out.keep.cell hkl
        go_wp2_with fail
        go_quiet (fail)
        go_wp2_with fail
        go_roundw
        case rel => exact ⟨k + 1, by omega, by go_num, _, rfl⟩
        case measure => simp [intOf]; omega
      · have c0 := HT4.out.keep.cell (i := 0) (by omega)
        have c4 := HT4.out.keep.cell (i := 4) (by omega)
        have c5 := HT4.out.keep.cell (i := 5) (by omega)
        have c6 := HT4.out.keep.cell (i := 6) (by omega)
        have c7 := HT4.out.keep.cell (i := 7) (by omega)
        rw [h3] at c0
        have hv := HV.out
        unfold le32 at hv
        subst hv
        go_wp2_with fail
        go_quiet (fail)
        go_wp2_with fail
        go_ret
        exact ⟨rfl, below_drewN HT4.out.below _⟩
  · obtain ⟨s, hs⟩ := HL.out w3 HT.out.below
    have HS := hide hs
    clear hs
    go_upto_region 7 with (go_at_call 5; go_must (refine (decode_bad F w.heap.size m bm f n b s t w3 h8 HT.out.page h3 (by rw [HT.out.below.tape]; exact HF.out) ((HT.out.below.cell (p := ⟨2, 0, none⟩) (World.block_lt_of_cell? w ⟨2, 0, none⟩ HMP.out)).trans HMP.out) HS.out ((HT.out.below.cell (p := ⟨0, 0, none⟩) (World.block_lt_of_cell? w ⟨0, 0, none⟩ HG.out)).trans HG.out) ((HT.out.below.cell (World.block_lt_of_cell? w _ HB.out)).trans HB.out)).mono ?_); rintro e w4 ⟨qb, rfl, hc4, hb4⟩; have HC4 := hide hc4; have HT4 := hide (HT.out.on hb4); clear hc4 hb4)
    go_upto_region 9 with (fail)
    go_wp2_with fail
    go_loopw [11] (fun t wr => ∃ k : Nat, k ≤ m ∧ t = .int .i64 k ∧ ∃ q, wr = w4.drewN q) (fun t _ => m - (intOf t).toNat)
    case atStart => exact ⟨0, Nat.zero_le _, rfl, 0, rfl⟩
    case round =>
      obtain ⟨k, hk, rfl, q, rfl⟩ := hrel
      by_cases hkl : k < m
      · have hkI : (k : Int) < (m : Int) := by omega
        have cp := HT4.out.page.cell hkl
        have ck := HT4.out.keep.cell hkl
        go_wp2_with fail
        go_quiet (fail)
        go_wp2_with fail
        go_roundw
        case rel => exact ⟨k + 1, by omega, by go_num, _, rfl⟩
        case measure => simp [intOf]; omega
      · have c0 := HT4.out.keep.cell (i := 0) (by omega)
        have c4 := HT4.out.keep.cell (i := 4) (by omega)
        have c5 := HT4.out.keep.cell (i := 5) (by omega)
        have c6 := HT4.out.keep.cell (i := 6) (by omega)
        have c7 := HT4.out.keep.cell (i := 7) (by omega)
        have cg := (HT4.out.below.cell (p := ⟨0, 0, none⟩) (World.block_lt_of_cell? w ⟨0, 0, none⟩ HG.out)).trans HG.out
        have h3b : (f 0 == 3) = false := by simp [h3]
        go_wp2_with (go_at_call 6; go_must (refine (is_wrap_same qb 0 b _ ?_).mono ?_); (focus exact HC4.out); rintro e w' ⟨rfl, rfl⟩)
        go_ret
        exact ⟨rfl, below_drewN HT4.out.below _⟩

set_option maxHeartbeats 1000000 in
theorem law_out (a : Option Addr) (len cap : Nat) (force : Bool) (n : Int) (w : World) (hl : len ≤ 9223372036854775807) (h : 1048576 < len) :
    Calls Ybaf.prog 3 #[.slice a len cap, .bool force, .int .u32 n] w fun e w' => e = .returned (.bool true) ∧ w' = w := by
  have hI : (1048576 : Int) < (len : Int) := by omega
  go_enter Ybaf.func3, Ybaf.ntmps3
  go_wp2_with fail
  go_ret
  exact ⟨rfl, rfl⟩
end Go.Proofs.YbulkdpccFmt
