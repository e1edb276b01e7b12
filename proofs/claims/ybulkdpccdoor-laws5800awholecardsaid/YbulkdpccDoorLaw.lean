/-
  Seat b5800aD: the law by its contract. By an AI agent.
-/
import Derived.Test.YbulkdpccDoorStart
import Derived.BigRegion
import Derived.Below
namespace Go.Proofs.YbulkdpccDoor
open Go.RowKit

theorem got_all {w : World} {pb len : Nat} {z : Nat → Int} (h : w.heap[pb]? = some (.cells (splice (List.replicate len (Value.int .u8 0)) 0 ((List.range len).map fun i => Value.int .u8 (z i))).toArray 5 (0, 0))) :
    w.rowIs pb 5 len (gotF z len) := by
  refine ⟨_, h, ?_, fun i hi => ?_⟩
  · simp [splice]
  · simp [splice, gotF, hi]

theorem Row.below {B : Nat} {w w' : World} {a : Option Addr} {len : Nat} {z : Nat → Int} (h : Row w a len z) (hb : Below B w w') (hB : w.heap.size ≤ B) : Row w' a len z := by
  intro j hj
  obtain ⟨b, off, e, hc, h0, h1⟩ := h j hj
  exact ⟨b, off, e, (World.cell?_of_block (hb.block _ (Nat.lt_of_lt_of_le (World.block_lt_of_cell? w _ hc) hB))).trans hc, h0, h1⟩

theorem Row.of_got {w : World} {pb n len : Nat} {z : Nat → Int} (h : w.rowIs pb 5 n (gotF z len)) (hn : len ≤ n) (hz : ∀ j, j < len → 0 ≤ z j ∧ z j ≤ 255) : Row w (some ⟨pb, 0, none⟩) len z := by
  intro j hj
  refine ⟨pb, 0, rfl, ?_, hz j hj⟩
  have := h.cell (i := j) (by omega)
  simpa [gotF, hj] using this

/-- What stands behind region 6: the copy, the error, the store. -/
structure St (w W : World) (fb sb len cap : Nat) (a : Option Addr) (mode : Int) (z : Nat → Int) (cs : Int) (ps : Int) : Prop where
  below : Below w.heap.size w W
  h1 : w.heap.size < fb
  h2 : fb < sb
  h3 : sb < W.heap.size
  orig : W.rowIs w.heap.size 5 len (gotF z len)
  err : ∃ c, W.heap[fb]? = some (.cells c 35 (0, 0))
  store : W.rowIs sb 28 6 (stF (.slice a len cap) mode (.iface 33 (.pointer (some ⟨fb, 0, none⟩))) cs 0 ps)

theorem below_drewN {B : Nat} {a w : World} (h : Below B a w) (m : Nat) : Below B a (w.drewN m) := ⟨h.os, h.tape, h.output, h.size, h.block⟩

theorem after_start {w w3 w4 : World} {fb len cap size : Nat} {a : Option Addr} {mode : Int} {z : Nat → Int} (h : St w w3 fb (fb + 1) len cap a mode z 0 0) (k : Only (fb + 1) w3.heap.size (w3.alloc (.cells (Array.replicate size (Value.int .u8 0)) 5)) w4) :
    Below w.heap.size w w4 ∧ w4.rowIs w.heap.size 5 len (gotF z len) ∧ w4.heap.size = w3.heap.size + 1 := by
  have h1 := h.h1
  have h2 := h.h3
  have hb : Below w.heap.size w w4 := by
    refine (h.below.alloc (by omega) (.cells (Array.replicate size (Value.int .u8 0)) 5)).trans ⟨k.os, k.tape, k.output, Nat.le_of_eq k.size.symm, fun j hj => k.block j (by omega) (by omega)⟩
  refine ⟨hb, (h.orig.alloc _).of_block (k.block _ (by omega) (by omega)), ?_⟩
  rw [k.size, Deep.nblk_alloc]

/-- What holds in the loop: the row that was read is the call's own. -/
structure Lo (w W : World) (pb len size : Nat) (z : Nat → Int) : Prop where
  below : Below w.heap.size w W
  orig : W.rowIs w.heap.size 5 len (gotF z len)
  got : ∃ f : Nat → Int, W.rowIs pb 5 size (fun i => .int .u8 (f i))

theorem got_ints {W : World} {pb size m : Nat} {z : Nat → Int} (h : W.rowIs pb 5 size (gotF z m)) : ∃ f : Nat → Int, W.rowIs pb 5 size (fun i => .int .u8 (f i)) :=
  ⟨fun i => if i < m then z i else 0, h.congr (fun i _ => by unfold gotF; dsimp only; split <;> rfl)⟩

theorem Lo.set {w W : World} {pb len size : Nat} {z : Nat → Int} (h : Lo w W pb len size z) (hpn : w.heap.size < pb) (k : Nat) (v : Int) : Lo w (W.setCell ⟨pb, k, none⟩ (.int .u8 v)) pb len size z := by
  obtain ⟨f, hf⟩ := h.got
  refine ⟨h.below.setCell (Nat.le_of_lt hpn) _, h.orig.of_block (Deep.blk_setCell_other _ _ _ _ (Nat.ne_of_lt hpn)), ⟨fun i => if i = k then v else f i, (hf.set k (.int .u8 v)).congr (fun i _ => ?_)⟩⟩
  dsimp only
  split <;> rfl

set_option maxRecDepth 20000 in
set_option maxHeartbeats 4000000 in
theorem law_main (a : Option Addr) (len cap size : Nat) (mode : Int) (z : Nat → Int) (w : World) (ea : Addr) (te : TypeId) (ce : Array Value) (m0 : 0 ≤ mode) (m1 : mode ≤ 255) (hs1 : size ≤ 1048576) (hl1 : len ≤ 1048576) (hlc : len ≤ cap)
    (hr : Row w a len z) (hev : w.cell? ⟨0, 0, none⟩ = some (.iface 33 (.pointer (some ea)))) (he : w.heap[ea.block]? = some (.cells ce te (0, 0))) :
    Calls Ybad.prog 3 #[.slice a len cap, .int .i64 size, .int .u8 mode] w fun e w' => e = .returned (.bool true) ∧ Below w.heap.size w w' := by
  have hlb : ∀ b off, a = some ⟨b, off, none⟩ → 0 < len → b < w.heap.size := fun b off e h0 => by
    obtain ⟨b', off', e', hc, _⟩ := hr 0 h0
    rw [e] at e'
    injection e' with e'
    injection e' with e1 e2
    subst e1
    exact World.block_lt_of_cell? w _ hc
  have hz : ∀ j, j < len → 0 ≤ z j ∧ z j ≤ 255 := fun j hj => by obtain ⟨_, _, _, _, h0, h1⟩ := hr j hj; exact ⟨h0, h1⟩
  have h0n : 0 < w.heap.size := World.block_lt_of_cell? w ⟨0, 0, none⟩ hev
  have hen : ea.block < w.heap.size := (Array.getElem?_eq_some_iff.1 he).1
  have hm1 := run_make_row' (P := Ybad.prog) 22 5 (.int .u8 0) 1 Ybad.underlying22 Ybad.info5 rfl .i64 .i64 len (by omega) (by omega)
  have HR := hide hr
  have HLB := hide hlb
  have HZ := hide hz
  have HEV := hide hev
  have HE := hide he
  clear hr hlb hz hev he
  have hsI : ¬ (size : Int) < 0 := by omega
  have hsI2 : ¬ (1048576 : Int) < (size : Int) := by omega
  have hlI : ¬ (1048576 : Int) < (len : Int) := by omega
  go_enter Ybad.func3, Ybad.ntmps3
  go_upto_region 4 with (fail)
  rw [made_rep]
  refine wp_gen (fun W => W = w.alloc (.cells (List.replicate len (Value.int .u8 0)).toArray 5)) rfl ?_
  intro w1 hw1
  have hb1 : Below w.heap.size w w1 := by rw [hw1]; exact (Below.refl _ w).alloc (Nat.le_refl _) _
  have hp1 : w1.heap[w.heap.size]? = some (.cells (List.replicate len (Value.int .u8 0)).toArray 5 (0, 0)) := by rw [hw1]; exact Deep.blk_alloc_new _ _
  have hz1 : w1.heap.size = w.heap.size + 1 := by rw [hw1]; exact Deep.nblk_alloc _ _
  have HB1 := hide hb1
  have HP1 := hide hp1
  have HZ1 := hide hz1
  have HR1 := hide (Row.below HR.out hb1 (Nat.le_refl _))
  clear hb1 hp1 hz1 hw1
  obtain ⟨cs, hcs⟩ : ∃ cs : List Value, cs = (List.range len).map fun i => Value.int .u8 (z i) := ⟨_, rfl⟩
  have q1 : cs.length = Nat.min len len := by rw [hcs]; simp
  have q2 : 0 < cs.length → some (⟨w.heap.size, 0, none⟩ : Addr) = some ⟨w.heap.size, 0, none⟩ ∧ ∃ ad, a = some ad ∧ ∀ j v, cs[j]? = some v → w1.cell? (ad.add j) = some v := by
    intro hpos
    refine ⟨rfl, ?_⟩
    obtain ⟨b, off, rfl, _⟩ := HR1.out 0 (by rw [hcs] at hpos; simpa using hpos)
    refine ⟨_, rfl, fun j v hj => ?_⟩
    rw [Go.WideShapes.add_plain]
    have hjl : j < len := by have := (List.getElem?_eq_some_iff.1 hj).1; rw [hcs] at this; simpa using this
    obtain ⟨b', off', e, hc, _⟩ := HR1.out j hjl
    simp at e
    obtain ⟨rfl, rfl⟩ := e
    rw [hc, ← hj, hcs, List.getElem?_map, List.getElem?_range hjl]; rfl
  have q3 : 0 + cs.length ≤ (List.replicate len (Value.int .u8 0)).length := by rw [hcs]; simp
  have q4 : ∀ v ∈ cs, v.oneCell' = true := by rw [hcs]; intro v hv; obtain ⟨i, _, rfl⟩ := List.mem_map.1 hv; rfl
  have Q1 := hide q1
  have Q2 := hide q2
  have Q3 := hide q3
  have Q4 := hide q4
  have HCS := hide hcs
  clear q1 q2 q3 q4 hcs
  go_upto_region 5 with (refine wpList_copy_splice rfl _ _ 22 22 rfl 5 Ybad.underlying22 (by kernel_rfl) _ _ _ _ _ _ rfl rfl w.heap.size 0 _ 5 HP1.out cs Q1.out Q2.out Q3.out Q4.out w.heap.size w1 (Below.refl _ _) (Nat.le_refl _) ?_)
  intro w2 hp2 hb2
  have hg2 : w2.rowIs w.heap.size 5 len (gotF z len) := got_all (by rw [HCS.out] at hp2; exact hp2.out)
  have hb2' := HB1.out.trans hb2
  have hz2 : w.heap.size < w2.heap.size := by have := hb2.size; have := HZ1.out; omega
  have HB2 := hide hb2'
  have HG2 := hide hg2
  have HZ2 := hide hz2
  clear hp2 hb2 hb2' hg2 HB1 HP1 HZ1 HR1 hz2 Q1 Q2 Q3 Q4 HCS
  go_upto_region 7 with (go_at_call 4; refine (new_any _ _).mono ?_; rintro e w' ⟨rfl, rfl⟩)
  refine wp_gen (fun W => St w W w2.heap.size (w2.heap.size + 1) len cap a mode z 0 0) ?st ?_
  case st =>
    refine ⟨(HB2.out.alloc (Nat.le_of_lt HZ2.out) _).alloc (by simp; have := HZ2.out; omega) _, HZ2.out, by omega, by simp, (HG2.out.alloc _).alloc _, ⟨_, (Deep.blk_alloc_lt _ _ _ (by simp)).trans (Deep.blk_alloc_new _ _)⟩, ?_⟩
    refine ⟨_, by have := Deep.blk_alloc_new (w2.alloc (.cells #[Value.string ⟨#[122, 122]⟩] 35)) (.cells #[.slice a len cap, .int .u8 mode, .iface 33 (.pointer (some ⟨w2.heap.size, 0, none⟩)), .int .i64 0, .int .i64 0, .int .i64 0] 28); rw [Deep.nblk_alloc] at this; exact this, rfl, fun i hi => ?_⟩
    match i, hi with
    | 0, _ => rfl
    | 1, _ => rfl
    | 2, _ => rfl
    | 3, _ => rfl
    | 4, _ => rfl
    | 5, _ => rfl
  generalize hfb : w2.heap.size = fb
  clear HB2 HG2 HZ2
  intro w3 hst
  have HST := hide hst
  clear hst
  have hne : ∀ b off, a = some ⟨b, off, none⟩ → 0 < len → b ≠ fb + 1 ∧ b ≠ w3.heap.size := fun b off e h0 => by
    have := HLB.out b off e h0
    have := HST.out.h1
    have := HST.out.h3
    omega
  have HNE := hide hne
  clear hne
  by_cases hm : mode % 4 = 2
  · go_upto_region 8 with (go_at_call 5; go_must (refine (start_any (fb + 1) size len cap fb ea te a mode ce _ z _ m0 m1 hs1 hl1 HST.out.store (Row.below HR.out HST.out.below (Nat.le_refl _)) hlc (HNE.out) ((HST.out.below.cell (p := ⟨0, 0, none⟩) h0n).trans HEV.out) (by have := HST.out.h1; omega) (by have := HST.out.h1; omega) (by omega) (by have := HST.out.h1; omega) ((HST.out.below.block _ hen).trans HE.out) (Classical.choose_spec HST.out.err)).mono ?_); rintro e w4 ⟨rfl, h1, h2, h3⟩; rw [if_pos hm]; have H1 := hide h1; have H2 := hide h2; have H3 := hide h3; clear h1 h2 h3)
    obtain ⟨hb4, ho4, hz4⟩ := after_start HST.out H1.out
    have c3 : w4.cell? ⟨fb + 1, 3, none⟩ = some (.int .i64 1) := H2.out.cell (i := 3) (by omega)
    have c4 : w4.cell? ⟨fb + 1, 4, none⟩ = some (.int .i64 0) := H2.out.cell (i := 4) (by omega)
    have c5 : w4.cell? ⟨fb + 1, 5, none⟩ = some (.int .i64 size) := H2.out.cell (i := 5) (by omega)
    have HB4 := hide hb4
    have HO4 := hide ho4
    have HZ4 := hide hz4
    have HRD := hide (Row.below HR.out hb4 (Nat.le_refl _))
    have HRO := hide (Row.of_got ho4 (Nat.le_refl _) HZ.out)
    clear hb4 ho4 hz4
    go_upto_region 10 with (fail)
    go_upto_region 12 with (go_at_call 6; refine (same_any _ _ len _ _ z _ hl1 HRD.out HRO.out).mono ?_; rintro e w5 ⟨rfl, m5, rfl⟩)
    have b2 : (mode % 4 == 2) = true := by simp [hm]
    clear hm c3 c4 c5
    have hsn : ∀ W : World, (binOp .eql 22 (.slice none 0 0) (.slice none 0 0)).run Ybad.prog W = .ok (.bool true) W := fun W => Lib.run_eql_slice_nil W 22 5 none 0 0 0 0 Ybad.underlying22
    have hes := eql_same ⟨fb, 0, none⟩
    go_wp2_with fail
    go_ret
    exact ⟨rfl, below_drewN HB4.out _⟩
  · have b2 : (mode % 4 == 2) = false := by simp [hm]
    by_cases hsl : size < len
    · have hslI : (size : Int) < (len : Int) := by omega
      have hmin : min size len = size := by omega
      go_upto_region 8 with (go_at_call 5; go_must (refine (start_any (fb + 1) size len cap fb ea te a mode ce _ z _ m0 m1 hs1 hl1 HST.out.store (Row.below HR.out HST.out.below (Nat.le_refl _)) hlc (HNE.out) ((HST.out.below.cell (p := ⟨0, 0, none⟩) h0n).trans HEV.out) (by have := HST.out.h1; omega) (by have := HST.out.h1; omega) (by omega) (by have := HST.out.h1; omega) ((HST.out.below.block _ hen).trans HE.out) (Classical.choose_spec HST.out.err)).mono ?_); rintro e w4 ⟨rfl, h1, h2, h3⟩; rw [if_neg hm, hmin]; have H1 := hide h1; have H2 := hide h2; have H3 := hide (by rw [hmin] at h3; exact h3); clear h1 h2 h3)
      obtain ⟨hb4, ho4, hz4⟩ := after_start HST.out H1.out
      have c3 : w4.cell? ⟨fb + 1, 3, none⟩ = some (.int .i64 1) := H2.out.cell (i := 3) (by omega)
      have c4 : w4.cell? ⟨fb + 1, 4, none⟩ = some (.int .i64 0) := H2.out.cell (i := 4) (by omega)
      have c5 : w4.cell? ⟨fb + 1, 5, none⟩ = some (.int .i64 size) := H2.out.cell (i := 5) (by omega)
      have HB4 := hide hb4
      have HO4 := hide ho4
      have HZ4 := hide hz4
      have HRD := hide (Row.below HR.out hb4 (Nat.le_refl _))
      have HRO := hide (Row.of_got ho4 (Nat.le_refl _) HZ.out)
      clear hb4 ho4 hz4
      go_upto_region 10 with (fail)
      go_upto_region 14 with (go_at_call 6; refine (same_any _ _ len _ _ z _ hl1 HRD.out HRO.out).mono ?_; rintro e w5 ⟨rfl, m5, rfl⟩)
      have hRG := Row.of_got H3.out (by omega) (fun j hj => HZ.out j (by omega))
      have HRG := hide hRG
      clear hRG c3 c4 c5
      have hsn : ∀ W : World, (binOp .eql 22 (.slice (some ⟨w3.heap.size, 0, none⟩) size size) (.slice none 0 0)).run Ybad.prog W = .ok (.bool false) W := fun W => Lib.run_eql_slice_nil W 22 5 (some ⟨w3.heap.size, 0, none⟩) size size 0 0 Ybad.underlying22
      go_upto_region 24 with (go_at_call 6; go_must (refine (same_any _ _ size _ _ z (w4.drewN m5) (by omega) (fun j hj => HRG.out j hj) (fun j hj => HRO.out j (by omega))).mono ?_); rintro e w6 ⟨rfl, m6, rfl⟩)
      have hlo : Lo w (w4.drewN (m5 + m6)) w3.heap.size len size z := ⟨below_drewN HB4.out _, HO4.out, got_ints H3.out⟩
      have HLO := hide hlo
      have hpn : w.heap.size < w3.heap.size := by have := HST.out.h1; have := HST.out.h3; omega
      clear hlo HRD HRO HRG HB4 HO4 HZ4 H1 H2 H3 HST HNE
      go_loopw [13] (fun t wr => ∃ k : Nat, k ≤ size ∧ t = .int .i64 k ∧ Hid (Lo w wr w3.heap.size len size z)) (fun t _ => size - (intOf t).toNat)
      case atStart => exact ⟨0, Nat.zero_le _, rfl, HLO⟩
      case round =>
        obtain ⟨k, hk, rfl, hlo⟩ := hrel
        by_cases hkl : k < size
        · have hkI : (k : Int) < (size : Int) := by omega
          obtain ⟨f, hf⟩ := hlo.out.got
          have cf := hf.cell (i := k) (by omega)
          have ff := hf.frozen k
          clear hf
          go_wp2_with fail
          go_roundw
          case rel => exact ⟨k + 1, by omega, by go_num, hlo.out.set hpn _ _⟩
          case measure => simp [intOf]; omega
        · go_wp2_with (go_at_call 6; refine (same_any _ _ len _ _ z _ hl1 (Row.below HR.out hlo.out.below (Nat.le_refl _)) (Row.of_got hlo.out.orig (Nat.le_refl _) HZ.out)).mono ?_; rintro e w7 ⟨rfl, m7, rfl⟩)
          go_ret
          exact ⟨rfl, below_drewN hlo.out.below _⟩
    · have hslI : ¬ (size : Int) < (len : Int) := by omega
      have hmin : min size len = len := by omega
      go_upto_region 8 with (go_at_call 5; go_must (refine (start_any (fb + 1) size len cap fb ea te a mode ce _ z _ m0 m1 hs1 hl1 HST.out.store (Row.below HR.out HST.out.below (Nat.le_refl _)) hlc (HNE.out) ((HST.out.below.cell (p := ⟨0, 0, none⟩) h0n).trans HEV.out) (by have := HST.out.h1; omega) (by have := HST.out.h1; omega) (by omega) (by have := HST.out.h1; omega) ((HST.out.below.block _ hen).trans HE.out) (Classical.choose_spec HST.out.err)).mono ?_); rintro e w4 ⟨rfl, h1, h2, h3⟩; rw [if_neg hm, hmin]; have H1 := hide h1; have H2 := hide h2; have H3 := hide (by rw [hmin] at h3; exact h3); clear h1 h2 h3)
      obtain ⟨hb4, ho4, hz4⟩ := after_start HST.out H1.out
      have c3 : w4.cell? ⟨fb + 1, 3, none⟩ = some (.int .i64 1) := H2.out.cell (i := 3) (by omega)
      have c4 : w4.cell? ⟨fb + 1, 4, none⟩ = some (.int .i64 0) := H2.out.cell (i := 4) (by omega)
      have c5 : w4.cell? ⟨fb + 1, 5, none⟩ = some (.int .i64 size) := H2.out.cell (i := 5) (by omega)
      have HB4 := hide hb4
      have HO4 := hide ho4
      have HZ4 := hide hz4
      have HRD := hide (Row.below HR.out hb4 (Nat.le_refl _))
      have HRO := hide (Row.of_got ho4 (Nat.le_refl _) HZ.out)
      clear hb4 ho4 hz4
      go_upto_region 10 with (fail)
      go_upto_region 14 with (go_at_call 6; refine (same_any _ _ len _ _ z _ hl1 HRD.out HRO.out).mono ?_; rintro e w5 ⟨rfl, m5, rfl⟩)
      have hRG := Row.of_got H3.out (by omega) (fun j hj => HZ.out j (by omega))
      have HRG := hide hRG
      clear hRG c3 c4 c5
      have hsn : ∀ W : World, (binOp .eql 22 (.slice (some ⟨w3.heap.size, 0, none⟩) len len) (.slice none 0 0)).run Ybad.prog W = .ok (.bool false) W := fun W => Lib.run_eql_slice_nil W 22 5 (some ⟨w3.heap.size, 0, none⟩) len len 0 0 Ybad.underlying22
      go_upto_region 24 with (go_at_call 6; go_must (refine (same_any _ _ len _ _ z (w4.drewN m5) (by omega) (fun j hj => HRG.out j hj) (fun j hj => HRO.out j (by omega))).mono ?_); rintro e w6 ⟨rfl, m6, rfl⟩)
      have hlo : Lo w (w4.drewN (m5 + m6)) w3.heap.size len size z := ⟨below_drewN HB4.out _, HO4.out, got_ints H3.out⟩
      have HLO := hide hlo
      have hpn : w.heap.size < w3.heap.size := by have := HST.out.h1; have := HST.out.h3; omega
      clear hlo HRD HRO HRG HB4 HO4 HZ4 H1 H2 H3 HST HNE
      go_loopw [13] (fun t wr => ∃ k : Nat, k ≤ len ∧ t = .int .i64 k ∧ Hid (Lo w wr w3.heap.size len size z)) (fun t _ => len - (intOf t).toNat)
      case atStart => exact ⟨0, Nat.zero_le _, rfl, HLO⟩
      case round =>
        obtain ⟨k, hk, rfl, hlo⟩ := hrel
        by_cases hkl : k < len
        · have hkI : (k : Int) < (len : Int) := by omega
          obtain ⟨f, hf⟩ := hlo.out.got
          have cf := hf.cell (i := k) (by omega)
          have ff := hf.frozen k
          clear hf
          go_wp2_with fail
          go_roundw
          case rel => exact ⟨k + 1, by omega, by go_num, hlo.out.set hpn _ _⟩
          case measure => simp [intOf]; omega
        · go_wp2_with (go_at_call 6; refine (same_any _ _ len _ _ z _ hl1 (Row.below HR.out hlo.out.below (Nat.le_refl _)) (Row.of_got hlo.out.orig (Nat.le_refl _) HZ.out)).mono ?_; rintro e w7 ⟨rfl, m7, rfl⟩)
          go_ret
          exact ⟨rfl, below_drewN hlo.out.below _⟩

set_option maxRecDepth 20000 in
set_option maxHeartbeats 1000000 in
theorem law_out (a : Option Addr) (len cap : Nat) (size mode : Int) (w : World) (hl : len ≤ 9223372036854775807) (h : size < 0 ∨ 1048576 < size ∨ 1048576 < len) :
    Calls Ybad.prog 3 #[.slice a len cap, .int .i64 size, .int .u8 mode] w fun e w' => e = .returned (.bool true) ∧ w' = w := by
  by_cases h1 : size < 0
  · clear h
    go_enter Ybad.func3, Ybad.ntmps3
    go_wp2_with fail
    go_ret
    exact ⟨rfl, rfl⟩
  · by_cases h2 : 1048576 < size
    · clear h
      go_enter Ybad.func3, Ybad.ntmps3
      go_wp2_with fail
      go_ret
      exact ⟨rfl, rfl⟩
    · have h3 : (1048576 : Int) < (len : Int) := by omega
      clear h
      go_enter Ybad.func3, Ybad.ntmps3
      go_wp2_with fail
      go_ret
      exact ⟨rfl, rfl⟩
end Go.Proofs.YbulkdpccDoor
