/-
  Seat b5800aF: checkKind, (littleEndian).Uint32, decodeFree by their contracts. By an AI agent.
-/
import Derived.Test.YbulkdpccFmtCorrupt
namespace Go.Proofs.YbulkdpccFmt
open Go.RowKit Go.Extern.Stop Go.Stop Go.Extern

theorem hide {p : Prop} (h : p) : Hid p := h
theorem wp_gen {P : Program} {c : Code} {Q : Exit → Act → World → Prop} {a : Act} {W : World} (R : World → Prop) (h : R W) (h2 : ∀ w, R w → Code.wp P c Q a w) : Code.wp P c Q a W := h2 W h
theorem below_drewN {B : Nat} {a w : World} (h : Below B a w) (m : Nat) : Below B a (w.drewN m) := ⟨h.os, h.tape, h.output, h.size, h.block⟩

theorem checkKind_ok (n : Int) (w : World) :
    Calls Ybaf.prog 7 #[.int .u8 3, .int .u32 n, .int .u8 3] w fun e w' => e = .returned .nilIface ∧ w' = w := by
  go_enter Ybaf.func7, Ybaf.ntmps7
  go_wp2_with fail
  go_ret
  exact ⟨rfl, rfl⟩

set_option maxHeartbeats 1000000 in
theorem checkKind_bad (F : Interp) (k n : Int) (bm : Nat) (b : Addr) (s t : ByteArray) (w : World) (hF : F.answers w.tape) (hk : ¬ k = 3) (hm : w.cell? ⟨2, 0, none⟩ = some (.map (some bm))) (hl : (Instr.lookup 42 (.map (some bm)) (.int .u8 3) false).run Ybaf.prog w = .ok (.string s) w)
    (hg : w.cell? ⟨0, 0, none⟩ = some (.iface 59 (.pointer (some b)))) (hb : w.cell? b = some (.string t)) :
    Calls Ybaf.prog 7 #[.int .u8 k, .int .u32 n, .int .u8 3] w fun e w' =>
      ∃ pb, e = .returned (.iface 58 (.pointer (some ⟨pb, 0, none⟩))) ∧ w'.cell? ⟨pb, 1, none⟩ = some (.iface 59 (.pointer (some b))) ∧ Below w.heap.size w w' := by
  go_enter Ybaf.func7, Ybaf.ntmps7
  go_wp2_with (go_at_call 11; go_must (refine (corrupt_any F w.heap.size 2 n k b s t _ ?_ ?_ ?_ ?_ ?_).mono ?_); (focus exact hF); (focus exact cell_new w #[.iface 9 (.string s), .iface 5 (.int .u8 k)] 20 0 _ rfl _ rfl); (focus exact cell_new w #[.iface 9 (.string s), .iface 5 (.int .u8 k)] 20 1 _ rfl _ rfl); (focus exact cell_old w (.cells #[.iface 9 (.string s), .iface 5 (.int .u8 k)] 20) hg _ rfl); (focus exact cell_old w (.cells #[.iface 9 (.string s), .iface 5 (.int .u8 k)] 20) hb _ rfl); rintro e w' ⟨pb, rfl, hc, hbe⟩)
  go_ret
  exact ⟨_, rfl, hc, ((Below.refl w.heap.size w).alloc (Nat.le_refl _) _).trans (hbe.mono (by simp))⟩

/-- The number at bytes 4 to 7, as both texts reckon it. -/
def le32 (z : Nat → Int) : Int :=
  bits BinOp.or IntKind.u32 (bits BinOp.or IntKind.u32 (bits BinOp.or IntKind.u32 (z 4 % 4294967296) (z 5 % 4294967296 * 256 % 4294967296)) (z 6 % 4294967296 * 65536 % 4294967296)) (z 7 % 4294967296 * 16777216 % 4294967296)

theorem calls_congr {P : Program} {f : FuncId} {args args' : Array Value} {w w' : World} {R : Ending → World → Prop} (h : Calls P f args w R) (ha : args' = args) (hw : w' = w) : Calls P f args' w' R := by
  rw [ha, hw]; exact h

/-- The row of a page: m cells of block pb. -/
def Page (w : World) (pb m : Nat) (z : Nat → Int) : Prop := w.rowIs pb 5 m (fun i => .int .u8 (z i))

set_option maxRecDepth 20000 in
set_option maxHeartbeats 1000000 in
theorem uint32_any (v0 : Value) (pb m c : Nat) (z : Nat → Int) (w : World) (hv0 : v0 = .agg #[]) (c0 : w.cell? ⟨pb, 4, none⟩ = some (.int .u8 (z 4))) (c1 : w.cell? ⟨pb, 5, none⟩ = some (.int .u8 (z 5))) (c2 : w.cell? ⟨pb, 6, none⟩ = some (.int .u8 (z 6))) (c3 : w.cell? ⟨pb, 7, none⟩ = some (.int .u8 (z 7))) (hm : 4 ≤ m) :
    Calls Ybaf.prog 8 #[v0, .slice (some ⟨pb, 4, none⟩) m c] w fun e w' => ∃ v, Hid (v = le32 z) ∧ e = .returned (.int .u32 v) ∧ Below w.heap.size w w' := by
  subst hv0
  have i0 : (0 : Int) < (m : Int) := by omega
  have i1 : (1 : Int) < (m : Int) := by omega
  have i2 : (2 : Int) < (m : Int) := by omega
  have i3 : (3 : Int) < (m : Int) := by omega
  go_enter Ybaf.func8, Ybaf.ntmps8
  go_upto_region 1 with (fail)
  refine wp_gen (fun W => W = w.alloc (.cells #[] 34)) rfl ?_
  intro w1 hw1
  have d0 : w1.cell? ⟨pb, 4, none⟩ = some (.int .u8 (z 4)) := cell_old w (.cells #[] 34) c0 w1 (by rw [hw1])
  have d1 : w1.cell? ⟨pb, 5, none⟩ = some (.int .u8 (z 5)) := cell_old w (.cells #[] 34) c1 w1 (by rw [hw1])
  have d2 : w1.cell? ⟨pb, 6, none⟩ = some (.int .u8 (z 6)) := cell_old w (.cells #[] 34) c2 w1 (by rw [hw1])
  have d3 : w1.cell? ⟨pb, 7, none⟩ = some (.int .u8 (z 7)) := cell_old w (.cells #[] 34) c3 w1 (by rw [hw1])
  have HW := hide hw1
  clear hw1 c0 c1 c2 c3
  go_upto_region 2 with (fail)
  go_quiet (fail)
  go_wp2_with fail
  go_ret
  exact ⟨_, hide rfl, rfl, below_drewN (by rw [HW.out]; exact (Below.refl _ w).alloc (Nat.le_refl _) _) _⟩

set_option maxRecDepth 20000 in
set_option maxHeartbeats 200000 in
theorem decode_ok (pb m : Nat) (z : Nat → Int) (n : Int) (w : World) (hm : 8 ≤ m) (hp : Page w pb m z) (h3 : z 0 = 3) :
    Calls Ybaf.prog 5 #[.slice (some ⟨pb, 0, none⟩) m m, .int .u32 n] w fun e w' => ∃ v, Hid (v = le32 z) ∧ e = .returned (.tuple #[.int .u32 v, .nilIface]) ∧ Below w.heap.size w w' := by
  have i0 : (0 : Int) < (m : Int) := by omega
  have i4 : (4 : Int) ≤ (m : Int) := by omega
  have c0 : w.cell? ⟨pb, 0, none⟩ = some (.int .u8 3) := by rw [← h3]; exact hp.cell (i := 0) (by omega)
  have c4 : w.cell? ⟨pb, 4, none⟩ = some (.int .u8 (z 4)) := hp.cell (i := 4) (by omega)
  have c5 : w.cell? ⟨pb, 5, none⟩ = some (.int .u8 (z 5)) := hp.cell (i := 5) (by omega)
  have c6 : w.cell? ⟨pb, 6, none⟩ = some (.int .u8 (z 6)) := hp.cell (i := 6) (by omega)
  have c7 : w.cell? ⟨pb, 7, none⟩ = some (.int .u8 (z 7)) := hp.cell (i := 7) (by omega)
  clear hp h3
  go_enter Ybaf.func5, Ybaf.ntmps5
  go_upto_region 4 with (go_at_call 7; refine (checkKind_ok n _).mono ?_; rintro e w' ⟨rfl, rfl⟩)
  have hX := uint32_any (.agg #[]) pb (m - 4) (m - 4) z w'.drew rfl c4 c5 c6 c7 (by omega)
  have HX : Hid _ := hide hX
  clear hX c0 c4 c5 c6 c7
  have hm4 : ¬ m = 4 := by omega
  go_region_with (go_at_call 8; go_must (refine HX.out.mono ?_); rintro e w1 ⟨v, hv, rfl, hb⟩)
  all_goals go_wp2
  all_goals go_ret2
  all_goals exact ⟨v, hv, rfl, ((Below.refl _ w').drew).trans hb⟩

set_option maxRecDepth 20000 in
set_option maxHeartbeats 1000000 in
theorem decode_bad (F : Interp) (pb m bm : Nat) (z : Nat → Int) (n : Int) (b : Addr) (s t : ByteArray) (w : World) (hm : 8 ≤ m) (hp : Page w pb m z) (h3 : ¬ z 0 = 3) (hF : F.answers w.tape) (hmp : w.cell? ⟨2, 0, none⟩ = some (.map (some bm))) (hl : (Instr.lookup 42 (.map (some bm)) (.int .u8 3) false).run Ybaf.prog w = .ok (.string s) w)
    (hg : w.cell? ⟨0, 0, none⟩ = some (.iface 59 (.pointer (some b)))) (hb : w.cell? b = some (.string t)) :
    Calls Ybaf.prog 5 #[.slice (some ⟨pb, 0, none⟩) m m, .int .u32 n] w fun e w' => ∃ qb, e = .returned (.tuple #[.int .u32 0, .iface 58 (.pointer (some ⟨qb, 0, none⟩))]) ∧ w'.cell? ⟨qb, 1, none⟩ = some (.iface 59 (.pointer (some b))) ∧ Below w.heap.size w w' := by
  have i0 : (0 : Int) < (m : Int) := by omega
  have c0 : w.cell? ⟨pb, 0, none⟩ = some (.int .u8 (z 0)) := hp.cell (i := 0) (by omega)
  have HL := hide hl
  clear hp hl
  go_enter Ybaf.func5, Ybaf.ntmps5
  go_wp2_with (go_at_call 7; go_must (refine (checkKind_bad F (z 0) n bm b s t w hF h3 hmp HL.out hg hb).mono ?_); rintro e w' ⟨qb, rfl, hc, hbe⟩)
  go_ret2
  exact ⟨_, rfl, hc, hbe⟩
end Go.Proofs.YbulkdpccFmt
