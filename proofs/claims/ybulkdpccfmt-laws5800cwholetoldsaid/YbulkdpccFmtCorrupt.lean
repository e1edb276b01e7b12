/-
  Seat b5800aF: fmt's two stopped fronts, fmt.Errorf, corrupt by their contracts. By an AI agent.
-/
import Derived.Test.YbulkdpccFmtIs
import Derived.Stop.FmtLaws
import Derived.Stop.CallBack
import Derived.Laws.Externs
import Derived.WalkSpells
import Derived.WalkLawsBesides
import Derived.BigQuiet
import Derived.BigRegion
import Derived.Deep.QuietTactic
import Derived.Deep.RegionWith
import Derived.Deep.OwnRows
import Derived.Deep.CutRange
import Derived.Below
namespace Go.Proofs.YbulkdpccFmt
open Go.RowKit Go.Extern.Stop Go.Stop Go.Extern

theorem Ybaf.call13 (args : Array Value) (w : World) : (callFunc 13 args).run Ybaf.prog w = (FmtCalls.sprintf #[9, 54] #[9] args).run Ybaf.prog w :=
  run_callFunc_next Ybaf.func13 (by kernel_rfl) (by kernel_rfl) (by kernel_rfl) args w
theorem Ybaf.call14 (args : Array Value) (w : World) : (callFunc 14 args).run Ybaf.prog w = ((FmtStop.errorf #[9, 54] #[26] args).run Ybaf.prog w).andThen fun v w' => .ok (.value v) w' :=
  run_callFunc_extern Ybaf.func14 (by kernel_rfl) (by kernel_rfl) (by kernel_rfl) (by kernel_rfl) args w
theorem Ybaf.guard (name : String) (w : World) : (FmtStop.guard name).run Ybaf.prog w = .ok () w := by kernel_rfl
theorem Ybaf.nextTurns : Extern.next FmtCalls.turnsRow = some (FmtCalls.begun #[] #[]) := by kernel_rfl
def fmtA : ByteArray := ⟨#[101, 120, 112, 101, 99, 116, 101, 100, 32, 37, 115, 32, 112, 97, 103, 101, 44, 32, 102, 111, 117, 110, 100, 32, 107, 105, 110, 100, 32, 37, 100]⟩
def fmtB : ByteArray := ⟨#[112, 97, 103, 101, 32, 37, 100, 58, 32, 37, 119, 58, 32, 37, 115]⟩
theorem Ybaf.fmtA2 : FmtStop.printed? ⟨#[101, 120, 112, 101, 99, 116, 101, 100, 32, 37, 115, 32, 112, 97, 103, 101, 44, 32, 102, 111, 117, 110, 100, 32, 107, 105, 110, 100, 32, 37, 100]⟩ 2 = some [(0, 115, false), (1, 100, false)] := by kernel_rfl
theorem Ybaf.fmtB3 (w : World) : (FmtDoors.printed ⟨#[112, 97, 103, 101, 32, 37, 100, 58, 32, 37, 119, 58, 32, 37, 115]⟩ 3).run Ybaf.prog w = .ok [(0, 100, false), (1, 119, false), (2, 115, false)] w := by kernel_rfl
theorem Ybaf.fmtB3' : FmtStop.printed? ⟨#[112, 97, 103, 101, 32, 37, 100, 58, 32, 37, 119, 58, 32, 37, 115]⟩ 3 = some [(0, 100, false), (1, 119, false), (2, 115, false)] := by kernel_rfl
def shape9 : List UInt8 := [12, 6, 0, 0, 0, 0, 0, 0, 0, 115, 116, 114, 105, 110, 103]
def shape5 : List UInt8 := [6, 5, 0, 0, 0, 0, 0, 0, 0, 117, 105, 110, 116, 56]
def shape23 : List UInt8 := [8, 6, 0, 0, 0, 0, 0, 0, 0, 117, 105, 110, 116, 51, 50]
def plain59 : List UInt8 := 14 :: FmtStop.pack "*errors.errorString".toUTF8.data.toList
theorem Ybaf.act9_115 (name : String) (x : Value) (w : World) : (FmtCalls.act name false 115 false (.iface 9 x)).run Ybaf.prog w = .ok (.closed false) w := by kernel_rfl
theorem Ybaf.act5_100 (name : String) (x : Value) (w : World) : (FmtCalls.act name false 100 false (.iface 5 x)).run Ybaf.prog w = .ok (.closed false) w := by kernel_rfl
theorem Ybaf.op9_115 (name : String) (x : ByteArray) (w : World) : (FmtStop.operand name false 115 false (.iface 9 (.string x))).run Ybaf.prog w = .ok (shape9, FmtStop.pack x.data.toList) w := by kernel_rfl
theorem Ybaf.op9_115w (name : String) (x : ByteArray) (w : World) : (FmtStop.operand name true 115 false (.iface 9 (.string x))).run Ybaf.prog w = .ok (shape9, FmtStop.pack x.data.toList) w := by kernel_rfl
theorem Ybaf.op5_100 (name : String) (x : Int) (w : World) : (FmtStop.operand name false 100 false (.iface 5 (.int .u8 x))).run Ybaf.prog w = .ok (shape5, Go.Extern.Stop.digits 8 (x % 2 ^ 64).toNat) w := by kernel_rfl
theorem Ybaf.op23_100w (name : String) (x : Int) (w : World) : (FmtStop.operand name true 100 false (.iface 23 (.int .u32 x))).run Ybaf.prog w = .ok (shape23, Go.Extern.Stop.digits 8 (x % 2 ^ 64).toNat) w := by kernel_rfl
theorem Ybaf.opPlain59_119w (name : String) (a : Addr) (s : ByteArray) (w : World) (hc : w.cell? a = some (.string s)) :
    (FmtStop.operand name true 119 false (.iface 59 (.pointer (some a)))).run Ybaf.prog w = .ok (plain59, s.data.toList) w := by
  have h1 : (typeStr 59).run Ybaf.prog w = .ok "*errors.errorString" w := by kernel_rfl
  have d2 : Ybaf.t59.desc = .pointer 61 := rfl
  have d3 : Ybaf.t61.desc = .named "errors.errorString" 60 := rfl
  simp [FmtStop.operand, h1, d2, d3, run_load, hc, plain59]
theorem Ybaf.ptr58 (w : World) : (FmtStop.ptrTo "fmt.wrapError").run Ybaf.prog w = .ok 58 w := by kernel_rfl
theorem Ybaf.elem58 (w : World) : (elemOf 58).run Ybaf.prog w = .ok 87 w := by kernel_rfl
theorem Ybaf.isError58 (w : World) : (FmtDoors.textMethod 58 "Error").run Ybaf.prog w = .ok true w := by kernel_rfl
theorem Ybaf.isError59 (w : World) : (FmtDoors.textMethod 59 "Error").run Ybaf.prog w = .ok true w := by kernel_rfl
theorem Ybaf.ptr59 (w : World) : (FmtStop.ptrTo "errors.errorString").run Ybaf.prog w = .ok 59 w := by kernel_rfl
theorem Ybaf.elem59 (w : World) : (elemOf 59).run Ybaf.prog w = .ok 61 w := by kernel_rfl
attribute [local go_sem] Ybaf.call13 Ybaf.call14 Ybaf.guard Ybaf.fmtA2 Ybaf.fmtB3 Ybaf.fmtB3' Ybaf.act9_115 Ybaf.act5_100 Ybaf.op9_115 Ybaf.op9_115w Ybaf.op5_100 Ybaf.op23_100w Ybaf.ptr58 Ybaf.elem58 Ybaf.isError58 Ybaf.isError59 Ybaf.ptr59 Ybaf.elem59

set_option maxHeartbeats 1000000 in
/-- fmt.Errorf("page %d: %w: %s", n, ErrCorrupt, s). -/
theorem errorf_any (F : Interp) (ab n' : Nat) (n : Int) (b : Addr) (s t : ByteArray) (w : World) (hF : F.answers w.tape) (h0 : w.cell? ⟨ab, 0, none⟩ = some (.iface 23 (.int .u32 n))) (h1 : w.cell? ⟨ab, 1, none⟩ = some (.iface 59 (.pointer (some b)))) (h2 : w.cell? ⟨ab, 2, none⟩ = some (.iface 9 (.string s))) (hb : w.cell? b = some (.string t)) :
    Calls Ybaf.prog 12 #[.string ⟨#[112, 97, 103, 101, 32, 37, 100, 58, 32, 37, 119, 58, 32, 37, 115]⟩, .slice (some ⟨ab, 0, none⟩) 3 n'] w fun e w' => e = .returned (.iface 58 (.pointer (some ⟨w.heap.size, 0, none⟩))) ∧
      ∃ x, w' = (w.alloc (.cells #[.string x, .iface 59 (.pointer (some b))] 87)).drew := by
  have hF' := answers_open hF
  have hop := Ybaf.opPlain59_119w "fmt.errorf" b t w hb
  go_enter Ybaf.func12, Ybaf.ntmps12
  go_wp2
  go_ret
  exact ⟨rfl, _, rfl⟩

/-- fmt.Sprintf("expected %s page, found kind %d", s, k): no operand's method is called. -/
theorem sprintf_rows (F : Interp) (ab n' : Nat) (k : Int) (s : ByteArray) (w : World) (hF : F.answers w.tape) (h0 : w.cell? ⟨ab, 0, none⟩ = some (.iface 9 (.string s))) (h1 : w.cell? ⟨ab, 1, none⟩ = some (.iface 5 (.int .u8 k))) {R : Value → World → Prop} (h : ∀ x : ByteArray, R (.string x) w.drew) :
    Rows Ybaf.prog FmtCalls.turnsRow (FmtCalls.save 0 0 (.slice (some ⟨ab, 0, none⟩) 2 n') ⟨#[101, 120, 112, 101, 99, 116, 101, 100, 32, 37, 115, 32, 112, 97, 103, 101, 44, 32, 102, 111, 117, 110, 100, 32, 107, 105, 110, 100, 32, 37, 100]⟩ [] [(0, 115, false), (1, 100, false)]) w R := by
  have hF' := answers_open hF
  apply rows_value Ybaf.nextTurns
  case hr => go_simp; exact ⟨rfl, rfl⟩
  case h => exact h _

theorem cell_new (w : World) (c : Array Value) (t : TypeId) (i : Nat) (v : Value) (h : c[i]? = some v) (W : World) (hW : W.heap = (w.alloc (.cells c t)).heap) : W.cell? ⟨w.heap.size, i, none⟩ = some v := by
  simp only [World.cell?, hW, Deep.blk_alloc_new]
  exact h
theorem cell_old (w : World) (o : Obj) {a : Addr} {v : Value} (h : w.cell? a = some v) (W : World) (hW : W.heap = (w.alloc o).heap) : W.cell? a = some v := by
  have := (Below.refl w.heap.size w).alloc (Nat.le_refl _) o
  rw [← h, ← this.cell (World.block_lt_of_cell? w a h)]
  simp only [World.cell?, hW]

theorem made_end {w W : World} (A : Obj) (y : ByteArray) (b : Addr) (hh : W.heap = ((w.alloc A).alloc (.cells #[.string y, .iface 59 (.pointer (some b))] 87)).heap) (ho : W.os = w.os) (ht : W.tape = w.tape) (hu : W.output = w.output) :
    W.cell? ⟨w.heap.size + 1, 1, none⟩ = some (.iface 59 (.pointer (some b))) ∧ Below w.heap.size w W := by
  have hb := ((Below.refl w.heap.size w).alloc (Nat.le_refl _) A).alloc (by simp) (.cells #[.string y, .iface 59 (.pointer (some b))] 87)
  refine ⟨?_, ho, ht, hu, ?_, fun k hk => ?_⟩
  · have h := cell_new (w.alloc A) #[.string y, .iface 59 (.pointer (some b))] 87 1 _ rfl W hh
    rw [Deep.nblk_alloc] at h
    exact h
  · rw [hh]; exact hb.size
  · rw [hh]; exact hb.block k hk

set_option maxHeartbeats 1000000 in
/-- corrupt(n, "expected %s page, found kind %d", s, k). -/
theorem corrupt_any (F : Interp) (ab n' : Nat) (n k : Int) (b : Addr) (s t : ByteArray) (w : World) (hF : F.answers w.tape) (h0 : w.cell? ⟨ab, 0, none⟩ = some (.iface 9 (.string s))) (h1 : w.cell? ⟨ab, 1, none⟩ = some (.iface 5 (.int .u8 k))) (hg : w.cell? ⟨0, 0, none⟩ = some (.iface 59 (.pointer (some b)))) (hb : w.cell? b = some (.string t)) :
    Calls Ybaf.prog 11 #[.int .u32 n, .string ⟨#[101, 120, 112, 101, 99, 116, 101, 100, 32, 37, 115, 32, 112, 97, 103, 101, 44, 32, 102, 111, 117, 110, 100, 32, 107, 105, 110, 100, 32, 37, 100]⟩, .slice (some ⟨ab, 0, none⟩) 2 n'] w fun e w' =>
      ∃ pb, e = .returned (.iface 58 (.pointer (some ⟨pb, 0, none⟩))) ∧ w'.cell? ⟨pb, 1, none⟩ = some (.iface 59 (.pointer (some b))) ∧ Below w.heap.size w w' := by
  have hF' := answers_open hF
  go_enter Ybaf.func11, Ybaf.ntmps11
  go_wp2_with fail
  go_region_with (first
    | (refine sprintf_rows F ab n' k s _ (by exact hF) (by exact h0) (by exact h1) ?_; intro x)
    | (go_at_call 12; go_must (refine (errorf_any F w.heap.size 3 n b x t _ ?_ ?_ ?_ ?_ ?_).mono ?_); (focus exact hF); (focus exact cell_new w #[.iface 23 (.int .u32 n), .iface 59 (.pointer (some b)), .iface 9 (.string x)] 20 0 _ rfl _ rfl); (focus exact cell_new w #[.iface 23 (.int .u32 n), .iface 59 (.pointer (some b)), .iface 9 (.string x)] 20 1 _ rfl _ rfl); (focus exact cell_new w #[.iface 23 (.int .u32 n), .iface 59 (.pointer (some b)), .iface 9 (.string x)] 20 2 _ rfl _ rfl); (focus exact cell_old w (.cells #[.iface 23 (.int .u32 n), .iface 59 (.pointer (some b)), .iface 9 (.string x)] 20) hb _ rfl); rintro e w' ⟨rfl, y, rfl⟩))
  all_goals go_wp2
  all_goals go_ret
  all_goals exact ⟨_, rfl, made_end _ _ _ rfl rfl rfl rfl⟩
end Go.Proofs.YbulkdpccFmt
