/-
  Seat b5797aF, statement LawS5797CWholeToldSaid: closed facts on fmt's stopped front, and the walks. By an AI agent.
-/
import Derived.Test.YbulkdpamFmtCards
import Derived.Stop.FmtLaws
import Derived.Laws.Externs
import GoSem.ClaimData
import Derived.WalkKit
import Derived.WalkSpells
import Derived.WalkLawsBesides
import Derived.BigQuiet
import Derived.Deep.QuietTactic
namespace Go.Proofs.YbulkdpamFmt
open Go.RowKit Go.Extern.Stop Go.Stop Go.Extern

namespace LawC
theorem call8 (args : Array Value) (w : World) : (callFunc 8 args).run Ybaf.prog w = ((FmtStop.errorf #[9, 31] #[26] args).run Ybaf.prog w).andThen fun v w' => .ok (.value v) w' :=
  run_callFunc_extern Ybaf.func8 (by kernel_rfl) (by kernel_rfl) (by kernel_rfl) (by kernel_rfl) args w
theorem guard (name : String) (w : World) : (FmtStop.guard name).run Ybaf.prog w = .ok () w := by kernel_rfl
theorem fmt0 : FmtStop.printed? ⟨#[109, 97, 112, 58, 32, 109, 97, 112, 45, 117, 115, 101, 114, 65, 98, 111, 114, 116, 58, 32, 37, 115, 58, 32, 37, 100, 32, 111, 117, 116, 32, 111, 102, 32, 116, 104, 101, 32, 114, 97, 110, 103, 101, 32, 48, 32, 116, 111, 32, 49, 50, 55]⟩ 2 = some [(0, 115, false), (1, 100, false)] := by kernel_rfl
theorem fmt0r (w : World) : (FmtDoors.printed ⟨#[109, 97, 112, 58, 32, 109, 97, 112, 45, 117, 115, 101, 114, 65, 98, 111, 114, 116, 58, 32, 37, 115, 58, 32, 37, 100, 32, 111, 117, 116, 32, 111, 102, 32, 116, 104, 101, 32, 114, 97, 110, 103, 101, 32, 48, 32, 116, 111, 32, 49, 50, 55]⟩ 2).run Ybaf.prog w = .ok [(0, 115, false), (1, 100, false)] w := by kernel_rfl
def shape22 : List UInt8 := [12, 22, 0, 0, 0, 0, 0, 0, 0, 103, 115, 109, 109, 97, 112, 46, 85, 115, 101, 114, 65, 98, 111, 114, 116, 67, 104, 111, 105, 99, 101]
theorem op22_115w (name : String) (x : ByteArray) (w : World) : (FmtStop.operand name true 115 false (.iface 22 (.string x))).run Ybaf.prog w = .ok (shape22, FmtStop.pack x.data.toList) w := by kernel_rfl
def shape2 : List UInt8 := [5, 5, 0, 0, 0, 0, 0, 0, 0, 105, 110, 116, 54, 52]
theorem op2_100w (name : String) (x : Int) (w : World) : (FmtStop.operand name true 100 false (.iface 2 (.int .i64 x))).run Ybaf.prog w = .ok (shape2, Go.Extern.Stop.digits 8 (x % 2 ^ 64).toNat) w := by kernel_rfl
theorem ptr34 (w : World) : (FmtStop.ptrTo "errors.errorString").run Ybaf.prog w = .ok 34 w := by kernel_rfl
theorem elem34 (w : World) : (elemOf 34).run Ybaf.prog w = .ok 36 w := by kernel_rfl
theorem isError34 (w : World) : (FmtDoors.textMethod 34 "Error").run Ybaf.prog w = .ok true w := by kernel_rfl
end LawC
open LawC
attribute [local go_sem] LawC.call8 LawC.guard LawC.fmt0 LawC.fmt0r LawC.op22_115w LawC.op2_100w LawC.ptr34 LawC.elem34 LawC.isError34

set_option maxHeartbeats 400000 in
theorem checkReason_bad (F : Interp) (c : ByteArray) (n : Int) (w : World) (hF : F.answers w.tape) (hn : n < 0 ∨ 127 < n) :
    Calls Ybaf.prog 5 #[.string c, .int .i64 n] w fun e w' => (∃ a, e = .returned (.iface 34 (.pointer (some a)))) ∧ Below w.heap.size w w' := by
  have hF' := answers_open hF
  rcases hn with hn | hn
  · go_enter Ybaf.func5, Ybaf.ntmps5
    go_wp2
    go_ret
    exact ⟨⟨_, rfl⟩, (((Below.refl _ _).alloc (Nat.le_refl _) _).alloc (by simp) _).drew⟩
  · have h0 : ¬ n < 0 := by omega
    go_enter Ybaf.func5, Ybaf.ntmps5
    go_wp2
    go_ret
    exact ⟨⟨_, rfl⟩, (((Below.refl _ _).alloc (Nat.le_refl _) _).alloc (by simp) _).drew⟩

set_option maxHeartbeats 400000 in
theorem checkReason_ok (c : ByteArray) (n : Int) (w : World) (h0 : ¬ n < 0) (h1 : ¬ 127 < n) :
    Calls Ybaf.prog 5 #[.string c, .int .i64 n] w fun e w' => e = .returned .nilIface ∧ w' = w := by
  go_enter Ybaf.func5, Ybaf.ntmps5
  go_wp2
  go_ret
  exact ⟨rfl, rfl⟩

theorem wrap_neg (n : Int) (hl : -9223372036854775808 ≤ n) (hn : n < 0) : (decide (IntKind.u64.wrap n ≤ 127)) = false := by
  simp [IntKind.wrap, IntKind.signed, IntKind.bits]; omega
theorem wrap_big (n : Int) (hu : n ≤ 9223372036854775807) (hn : 127 < n) : (decide (IntKind.u64.wrap n ≤ 127)) = false := by
  simp [IntKind.wrap, IntKind.signed, IntKind.bits]; omega

set_option maxHeartbeats 400000 in
theorem inrange_ok (n : Int) (w : World) (h0 : 0 ≤ n) (h1 : n ≤ 127) :
    Calls Ybaf.prog 6 #[.int .i64 n] w fun e w' => e = .returned (.bool true) ∧ w' = w := by
  go_enter Ybaf.func6, Ybaf.ntmps6
  go_wp2
  go_ret
  exact ⟨rfl, rfl⟩

set_option maxHeartbeats 400000 in
theorem inrange_any (n : Int) (w : World) (h : decide (IntKind.u64.wrap n ≤ 127) = false) :
    Calls Ybaf.prog 6 #[.int .i64 n] w fun e w' => e = .returned (.bool false) ∧ w' = w := by
  go_enter Ybaf.func6, Ybaf.ntmps6
  go_wp2
  go_ret
  exact ⟨rfl, rfl⟩

theorem inrange_bad (n : Int) (w : World) (hl : -9223372036854775808 ≤ n) (hu : n ≤ 9223372036854775807) (hn : n < 0 ∨ 127 < n) :
    Calls Ybaf.prog 6 #[.int .i64 n] w fun e w' => e = .returned (.bool false) ∧ w' = w :=
  inrange_any n w (hn.elim (wrap_neg n hl) (wrap_big n hu))

set_option maxHeartbeats 400000 in
theorem one_ok (c : ByteArray) (n : Int) (w : World) (h0 : 0 ≤ n) (h1 : n ≤ 127) :
    Calls Ybaf.prog 4 #[.string c, .int .i64 n] w fun e w' => e = .returned (.bool true) ∧ Below w.heap.size w w' := by
  go_enter Ybaf.func4, Ybaf.ntmps4
  go_wp2_with (go_at_call 5; refine (checkReason_ok _ _ _ (by omega) (by omega)).mono ?_; rintro e w' ⟨rfl, rfl⟩)
  go_quiet ((go_at_call 6; exact Calls.quiet_of_same (inrange_ok _ _ h0 h1)))
  go_wp2
  go_ret
  exact ⟨rfl, below_drewN (Below.refl _ _) _⟩

set_option maxHeartbeats 400000 in
theorem one_bad (F : Interp) (c : ByteArray) (n : Int) (w : World) (hF : F.answers w.tape) (hl : -9223372036854775808 ≤ n) (hu : n ≤ 9223372036854775807) (hn : n < 0 ∨ 127 < n) :
    Calls Ybaf.prog 4 #[.string c, .int .i64 n] w fun e w' => e = .returned (.bool true) ∧ Below w.heap.size w w' := by
  go_enter Ybaf.func4, Ybaf.ntmps4
  go_wp2_with (go_at_call 5; refine (checkReason_bad F _ _ _ hF hn).mono ?_; rintro e w1 ⟨⟨a, rfl⟩, hb⟩)
  go_quiet ((go_at_call 6; exact Calls.quiet_of_same (inrange_bad _ _ hl hu hn)))
  go_wp2
  go_ret
  exact ⟨rfl, below_drewN hb _⟩

theorem one_any (F : Interp) (c : ByteArray) (n : Int) (w : World) (hF : F.answers w.tape) (hl : -9223372036854775808 ≤ n) (hu : n ≤ 9223372036854775807) :
    Calls Ybaf.prog 4 #[.string c, .int .i64 n] w fun e w' => e = .returned (.bool true) ∧ Below w.heap.size w w' := by
  by_cases h : n < 0 ∨ 127 < n
  · exact one_bad F c n w hF hl hu h
  · exact one_ok c n w (by omega) (by omega)

theorem wrap64_lo (x : Int) : -9223372036854775808 ≤ wrap64 x := by
  unfold wrap64; omega
theorem wrap64_hi (x : Int) : wrap64 x ≤ 9223372036854775807 := by
  unfold wrap64; omega

set_option maxHeartbeats 400000 in
theorem law_any (F : Interp) (c : ByteArray) (n : Int) (w : World) (hF : F.answers w.tape) (hl : -9223372036854775808 ≤ n) (hu : n ≤ 9223372036854775807) :
    Calls Ybaf.prog 3 #[.string c, .int .i64 n] w fun e w' => e = .returned (.bool true) ∧ Below w.heap.size w w' := by
  go_enter Ybaf.func3, Ybaf.ntmps3
  go_wp2_with fail
  refine (one_any F c n _ hF hl hu).mono ?_
  rintro e w1 ⟨rfl, hb⟩
  have hF1 : F.answers w1.tape := by rw [hb.tape]; exact hF
  go_wp2_with fail
  refine (one_any F c _ _ hF1 ?_ ?_).mono ?_
  · exact wrap64_lo _
  · exact wrap64_hi _
  rintro e w2 ⟨rfl, hb2⟩
  go_wp2_with fail
  go_ret
  exact ⟨rfl, hb.trans (hb2.mono hb.size)⟩

end Go.Proofs.YbulkdpamFmt
