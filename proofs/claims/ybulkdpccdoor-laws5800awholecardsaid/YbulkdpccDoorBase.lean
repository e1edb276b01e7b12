/-
  Seat b5800aD: rows of bytes; 'zzs5800asame', errors.New by their contracts. By an AI agent.
-/
import Derived.Test.YbulkdpccDoorRows
import Derived.WalkKit
import Derived.WalkSpells
import Derived.WalkLawsBesides
import Derived.BigQuiet
import Derived.Deep.QuietTactic
import Derived.Deep.OwnRows
import Derived.Deep.CutRange
import Derived.LaidEql
import Derived.Laws.CopyOwn
namespace Go.Proofs.YbulkdpccDoor
open Go.RowKit

theorem hide {p : Prop} (h : p) : Hid p := h
theorem unhide {p : Prop} (h : Hid p) : p := h
theorem wp_gen {P : Program} {c : Code} {Q : Exit → Act → World → Prop} {a : Act} {W : World} (R : World → Prop) (h : R W) (h2 : ∀ w, R w → Code.wp P c Q a w) : Code.wp P c Q a W := h2 W h

/-- The first len cells behind address a hold the bytes z. -/
def Row (w : World) (a : Option Addr) (len : Nat) (z : Nat → Int) : Prop :=
  ∀ j, j < len → ∃ b off, a = some ⟨b, off, none⟩ ∧ w.cell? ⟨b, off + j, none⟩ = some (.int .u8 (z j)) ∧ 0 ≤ z j ∧ z j ≤ 255

set_option maxRecDepth 20000 in
set_option maxHeartbeats 400000 in
theorem same_any (a b : Option Addr) (len ca cb : Nat) (z : Nat → Int) (w : World) (hl : len ≤ 1048576) (ha : Row w a len z) (hb : Row w b len z) :
    Calls Ybad.prog 6 #[.slice a len ca, .slice b len cb] w fun e w' => e = .returned (.bool true) ∧ ∃ m, w' = w.drewN m := by
  have HA := hide ha
  have HB := hide hb
  clear ha hb
  go_enter Ybad.func6, Ybad.ntmps6
  go_wp2_with fail
  go_loopw [5] (fun t wr => ∃ k : Nat, k ≤ len ∧ t = .int .i64 k ∧ ∃ m, wr = w.drewN m) (fun t _ => len - (intOf t).toNat)
  case atStart => exact ⟨0, Nat.zero_le _, rfl, 0, rfl⟩
  case round =>
    obtain ⟨k, hk, rfl, m, rfl⟩ := hrel
    by_cases hkl : k < len
    · obtain ⟨b1, o1, rfl, h1, _, _⟩ := HA.out k hkl
      obtain ⟨b2, o2, rfl, h2, _, _⟩ := HB.out k hkl
      have hkI : (k : Int) < (len : Int) := by omega
      go_wp2_with fail
      go_quiet (fail)
      go_wp2_with fail
      go_roundw
      case rel => exact ⟨k + 1, by omega, by go_num, _, rfl⟩
      case measure => simp [intOf]; omega
    · go_wp2_with fail
      go_ret
      exact ⟨rfl, m, rfl⟩

set_option maxHeartbeats 400000 in
theorem new_any (s : ByteArray) (w : World) :
    Calls Ybad.prog 4 #[.string s] w fun e w' => e = .returned (.iface 33 (.pointer (some ⟨w.heap.size, 0, none⟩))) ∧ w' = w.alloc (.cells #[.string s] 35) := by
  go_enter Ybad.func4, Ybad.ntmps4
  go_wp2
  go_ret
  exact ⟨rfl, rfl⟩

end Go.Proofs.YbulkdpccDoor
