/-
  Seat b5799a: the law where there are no blocks. By an AI agent.
-/
import Derived.Test.YbulkdpboLaw
namespace Go.Proofs.Ybulkdpbo
open Go.RowKit

set_option maxRecDepth 20000 in
set_option maxHeartbeats 400000 in
theorem headBlocks_zero (d r : Nat) (ta : Option Addr) (w : World)
    (hd : w.cell? ⟨d, 0, none⟩ = some (.pointer (some ⟨r, 0, none⟩))) (hr : w.cell? ⟨r, 5, none⟩ = some (.slice ta 0 0)) :
    Calls Yba.prog 5 #[.pointer (some ⟨d, 0, none⟩)] w fun e w' => e = .returned (.slice none 0 0) ∧ w' = w := by
  go_enter Yba.func5, Yba.ntmps5
  go_wp2_with fail
  refine wp_loop_rounds 1 ?_
  rw [rounds_succ]
  go_wp2_with fail
  go_ret
  exact ⟨rfl, rfl⟩

theorem make0 (w : World) : (Instr.makeSlice 23 (.int .i64 0) (.int .i64 0)).run Yba.prog w = .ok (.slice (some ⟨w.heap.size, 0, none⟩) 0 0) (w.alloc (.cells #[] 24)) := by
  have h := run_make_row' (P := Yba.prog) 23 24 (.pointer none) 8 Yba.underlying23 Yba.info24 rfl .i64 .i64 0 (by omega) (by omega) w
  have e : madeCells #[Value.pointer none] 0 = #[] := by apply Array.eq_empty_of_size_eq_zero; exact size_madeCells _ _
  rw [e] at h
  exact h

set_option maxRecDepth 100000 in
set_option maxHeartbeats 1000000 in
theorem law_nil (v1 : Value) (w : World) :
    Calls Yba.prog 3 #[.slice none 0 0, v1] w fun e w' => e = .returned (.bool true) ∧ Below w.heap.size w w' := by
  have hm1 := make0
  have hnn : ∀ V, (binOp .neq 22 (.slice none 0 0) (.slice none 0 0)).run Yba.prog V = .ok (.bool false) V := fun V => run_neq_slice_nil_any V 22 5 none 0 0 0 0 Yba.underlying22
  have hq : ∀ V, (binOp .eql 23 (.slice none 0 0) (.slice none 0 0)).run Yba.prog V = .ok (.bool true) V := fun V => Lib.run_eql_slice_nil V 23 24 none 0 0 0 0 Yba.underlying23
  have hne := neq24
  go_enter Yba.func3, Yba.ntmps3
  go_wp2_with fail
  refine wp_loop_rounds 1 ?_
  rw [rounds_succ]
  go_upto_region 14 with (refine wpList_copy_nothing rfl _ _ 23 23 rfl 24 Yba.underlying23 (by kernel_rfl) _ _ _ _ _ _ rfl rfl rfl ?_)
  go_wp2_with fail
  refine (headBlocks_zero _ w.heap.size none _ ?_ ?_).mono ?_
  · go_simp
  · go_simp
  rintro e w5 ⟨rfl, hw5⟩
  subst hw5
  go_wp2_with fail
  refine wp_loop_rounds 1 ?_
  rw [rounds_succ]
  go_wp2_with fail
  refine wp_loop_rounds 1 ?_
  rw [rounds_succ]
  go_wp2_with fail
  go_ret
  exact ⟨rfl, (((Below.refl _ _).alloc (Nat.le_refl _) _).alloc (by simp) _).alloc (by simp; omega) _⟩

set_option maxRecDepth 100000 in
set_option maxHeartbeats 1000000 in
theorem law_zero (x0 : Addr) (cap : Nat) (v1 : Value) (w : World) :
    Calls Yba.prog 3 #[.slice (some x0) 0 cap, v1] w fun e w' => e = .returned (.bool true) ∧ Below w.heap.size w w' := by
  have hm1 := make0
  have hnn : ∀ V, (binOp .neq 22 (.slice (some x0) 0 cap) (.slice none 0 0)).run Yba.prog V = .ok (.bool true) V := fun V => run_neq_slice_nil_any V 22 5 (some x0) 0 cap 0 0 Yba.underlying22
  have hq : ∀ V, (binOp .eql 23 (.slice none 0 0) (.slice none 0 0)).run Yba.prog V = .ok (.bool true) V := fun V => Lib.run_eql_slice_nil V 23 24 none 0 0 0 0 Yba.underlying23
  have hne := neq24
  go_enter Yba.func3, Yba.ntmps3
  go_wp2_with fail
  refine wp_loop_rounds 1 ?_
  rw [rounds_succ]
  go_upto_region 14 with (refine wpList_copy_nothing rfl _ _ 23 23 rfl 24 Yba.underlying23 (by kernel_rfl) _ _ _ _ _ _ rfl rfl rfl ?_)
  go_wp2_with fail
  refine (headBlocks_zero _ (w.heap.size + 1) (some ⟨w.heap.size, 0, none⟩) _ ?_ ?_).mono ?_
  · go_simp
  · go_simp
  rintro e w5 ⟨rfl, hw5⟩
  subst hw5
  go_wp2_with fail
  refine wp_loop_rounds 1 ?_
  rw [rounds_succ]
  go_wp2_with fail
  refine wp_loop_rounds 1 ?_
  rw [rounds_succ]
  go_wp2_with fail
  go_ret
  exact ⟨rfl, ((((Below.refl _ _).alloc (Nat.le_refl _) _).alloc (by simp) _).alloc (by simp; omega) _).alloc (by simp; omega) _⟩
end Go.Proofs.Ybulkdpbo
