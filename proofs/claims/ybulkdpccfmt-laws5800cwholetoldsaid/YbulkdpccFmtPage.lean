/-
  Seat b5800aF: zzs5800cpage and the law by their contracts. By an AI agent.
-/
import Derived.Test.YbulkdpccFmtDecode
import Derived.Laws.CopyOwn
namespace Go.Proofs.YbulkdpccFmt
open Go.RowKit Go.Extern.Stop Go.Stop Go.Extern

/-- The first len cells behind address a hold the bytes z. -/
def Row (w : World) (a : Option Addr) (len : Nat) (z : Nat → Int) : Prop :=
  ∀ j, j < len → ∃ b off, a = some ⟨b, off, none⟩ ∧ w.cell? ⟨b, off + j, none⟩ = some (.int .u8 (z j))

theorem Ybaf.info5 : (Ybaf.prog.info? 5).map (fun i => (i.zero, i.size, i.bytes)) = some (some (.int .u8 0), 1, 1) := by kernel_rfl

/-- The page that is being made. -/
structure Pg (w W : World) (m : Nat) : Prop where
  below : Below w.heap.size w W
  page : ∃ f, Page W w.heap.size m f

theorem Pg.set {w W : World} {m : Nat} (h : Pg w W m) (k : Nat) (v : Int) : Pg w (W.setCell ⟨w.heap.size, k, none⟩ (.int .u8 v)) m := by
  obtain ⟨f, hf⟩ := h.page
  refine ⟨h.below.setCell (Nat.le_refl _) _, fun i => if i = k then v else f i, ?_⟩
  refine (hf.set k (.int .u8 v)).congr (fun i _ => ?_)
  dsimp only
  split <;> rfl

theorem pg_made (w : World) (m : Nat) : Pg w (w.alloc (.cells (madeCells #[.int .u8 0] m) 5)) m :=
  ⟨(Below.refl _ w).alloc (Nat.le_refl _) _, fun _ => 0, World.rowIs_made w (.int .u8 0) m 5⟩

set_option maxRecDepth 20000 in
set_option maxHeartbeats 2000000 in
theorem page_any (a : Option Addr) (len cap m : Nat) (force : Bool) (z : Nat → Int) (w : World) (hl : len ≤ 1048576) (hr : Row w a len z) (hm : m = if len < 8 then 8 else len) :
    Calls Ybaf.prog 4 #[.slice a len cap, .bool force] w fun e w' => e = .returned (.slice (some ⟨w.heap.size, 0, none⟩) m m) ∧ Pg w w' m := by
  have h8 : 8 ≤ m := by rw [hm]; split <;> omega
  have hml : m ≤ 1048576 := by rw [hm]; split <;> omega
  have hle : len ≤ m := by rw [hm]; split <;> omega
  have hm1 := run_make_row' (P := Ybaf.prog) 22 5 (.int .u8 0) 1 Ybaf.underlying22 Ybaf.info5 rfl .i64 .i64 m (by omega) (by omega)
  have HR := hide hr
  have HM := hide hm
  have i0 : (0 : Int) < (m : Int) := by omega
  clear hr hm
  by_cases h : len < 8
  · have hI : (len : Int) < 8 := by omega
    obtain rfl : m = 8 := by rw [HM.out, if_pos h]
    have hm2 : ∀ W : World, (Instr.makeSlice 22 (.int .i64 8) (.int .i64 8)).run Ybaf.prog W = .ok (.slice (some ⟨W.heap.size, 0, none⟩) 8 8) (W.alloc (.cells (madeCells #[.int .u8 0] 8) 5)) := fun W => hm1 W
    clear hm1
    go_enter Ybaf.func4, Ybaf.ntmps4
    go_upto_region 5 with (fail)
    refine wp_gen (fun W => Pg w W 8) (pg_made w 8) ?_
    intro w1 hp
    have HP := hide hp
    clear hp
    go_wp2_with fail
    go_loopw [7] (fun t wr => ∃ k : Nat, k ≤ len ∧ t = .int .i64 k ∧ Hid (Pg w wr 8)) (fun t _ => len - (intOf t).toNat)
    case atStart => exact ⟨0, Nat.zero_le _, rfl, HP⟩
    case round =>
      obtain ⟨k, hk, rfl, hlo⟩ := hrel
      by_cases hkl : k < len
      · have hkI : (k : Int) < (len : Int) := by omega
        have hkM : (k : Int) < 8 := by omega
        obtain ⟨b, off, rfl, hc⟩ := HR.out k hkl
        have hc' := (hlo.out.below.cell (p := ⟨b, off + k, none⟩) (World.block_lt_of_cell? w _ hc)).trans hc
        obtain ⟨f, hf⟩ := hlo.out.page
        have cf := hf.cell (i := k) (by omega)
        have ff := hf.frozen k
        clear hf hc
        go_wp2_with fail
        go_roundw
        case rel => exact ⟨k + 1, by omega, by go_num, hlo.out.set _ _⟩
        case measure => simp [intOf]; omega
      · obtain ⟨f, hf⟩ := hlo.out.page
        have cf := hf.cell (i := 0) (by omega)
        have ff := hf.frozen 0
        clear hf
        cases force
        · go_wp2_with fail
          go_ret
          exact ⟨rfl, hlo.out⟩
        · go_wp2_with fail
          go_ret
          exact ⟨rfl, hlo.out.set _ _⟩
  · have hI : ¬ (len : Int) < 8 := by omega
    obtain rfl : m = len := by rw [HM.out, if_neg h]
    go_enter Ybaf.func4, Ybaf.ntmps4
    go_upto_region 5 with (fail)
    refine wp_gen (fun W => Pg w W m) (pg_made w m) ?_
    intro w1 hp
    have HP := hide hp
    clear hp
    go_wp2_with fail
    go_loopw [7] (fun t wr => ∃ k : Nat, k ≤ m ∧ t = .int .i64 k ∧ Hid (Pg w wr m)) (fun t _ => m - (intOf t).toNat)
    case atStart => exact ⟨0, Nat.zero_le _, rfl, HP⟩
    case round =>
      obtain ⟨k, hk, rfl, hlo⟩ := hrel
      by_cases hkl : k < m
      · have hkI : (k : Int) < (m : Int) := by omega
        have hkM : (k : Int) < (m : Int) := by omega
        obtain ⟨b, off, rfl, hc⟩ := HR.out k hkl
        have hc' := (hlo.out.below.cell (p := ⟨b, off + k, none⟩) (World.block_lt_of_cell? w _ hc)).trans hc
        obtain ⟨f, hf⟩ := hlo.out.page
        have cf := hf.cell (i := k) (by omega)
        have ff := hf.frozen k
        clear hf hc
        go_wp2_with fail
        go_roundw
        case rel => exact ⟨k + 1, by omega, by go_num, hlo.out.set _ _⟩
        case measure => simp [intOf]; omega
      · obtain ⟨f, hf⟩ := hlo.out.page
        have cf := hf.cell (i := 0) (by omega)
        have ff := hf.frozen 0
        clear hf
        cases force
        · go_wp2_with fail
          go_ret
          exact ⟨rfl, hlo.out⟩
        · go_wp2_with fail
          go_ret
          exact ⟨rfl, hlo.out.set _ _⟩
end Go.Proofs.YbulkdpccFmt
