/-
  Seat b5798a: from the built state to what 'flat' and 'named' read; pointers compared. No walk. By an AI agent.
-/
import Derived.Test.YbulkdpbaRHead
namespace Go.Proofs.YbulkdpbaR
open Go.RowKit

theorem chF_mem (P : Nat → Int) : ∀ (k i c : Nat), c ∈ chF P k i → i < c ∧ c ≤ k
  | 0, _, _, h => by simp [chF] at h
  | k + 1, i, c, h => by
    have hp := par_le P k
    simp only [chF] at h
    split at h
    · rename_i e
      simp at h
      rcases h with h | rfl
      · have := chF_mem P k i c h; omega
      · omega
    · have := chF_mem P k i c h; omega

theorem ints_of_own {w : World} {base B : Nat} {v : Value} {cs : List Nat} (h : w.ownsRow base 3 1 v cs.length (natVals cs)) (hB : w.heap.size ≤ B) : IntSlice w B v cs := by
  rcases h.2 with ⟨rfl, h0⟩ | ⟨g, cap, cur, rfl, hb, hg, _⟩
  · exact .inl ⟨rfl, List.eq_nil_of_length_eq_zero h0⟩
  · refine .inr ⟨g, cap, Nat.lt_of_lt_of_le (lt_of_block hg) hB, rfl, fun j hj => ?_⟩
    have := h.cellAt j (by omega)
    rw [this]
    simp [natVals, hj, List.getD]

theorem ptrs_of_own {w : World} {base : Nat} {nb : Nat → Nat} {v : Value} {cs : List Nat} (h : w.ownsRow base 36 1 v cs.length (ptrVals nb cs)) : PtrSlice w nb v cs := by
  rcases h.2 with ⟨rfl, h0⟩ | ⟨g, cap, cur, rfl, hb, hg, _⟩
  · exact .inl ⟨rfl, List.eq_nil_of_length_eq_zero h0⟩
  · refine .inr ⟨g, cap, rfl, fun j hj => ?_⟩
    have := h.cellAt j (by omega)
    rw [this]
    simp [ptrVals, hj, List.getD]

section
variable {w0 w : World} {m0 m1 bm : Nat} {tb : Nat → Nat} {B len : Nat} {F : Nat → Nat → Value} {nb : Nat → Nat} {nf : Nat → Nat → Value} {K N M P : Nat → Int}

theorem St.kids (s : St w0 w m0 m1 bm tb B (len + 1) (len + 1) F nb nf (chF P len) (chF P len)) (t : Tabs K N M m0 m1 len F nb nf) (h : len ≤ 1024) : KidsOK w w.heap.size (len + 1) (tb 4) (tb 1) (kdF K) (chF P len) where
  hlt := fun i _ c hc => by have := chF_mem P len i c hc; omega
  hfew := fun i _ => by have := chF_few P len i; omega
  hn := by omega
  hbk := (s.rows 4 (by omega)).lt
  hbq := (s.rows 1 (by omega)).lt
  hkd := fun i hi => by rw [s.cellT 1 (by omega) i hi, (t i (by omega)).2.1]
  hch := fun i hi => ⟨_, s.cellT 4 (by omega) i hi, ints_of_own (s.ok i hi) (Nat.le_refl _)⟩

theorem St.nodes (s : St w0 w m0 m1 bm tb B (len + 1) (len + 1) F nb nf (chF P len) (chF P len)) (t : Tabs K N M m0 m1 len F nb nf) (h : len ≤ 1024) : NodesOK w (len + 1) nb (kdF K) (nmF N) (fun i => modP m0 m1 (miF M i)) (chF P len) where
  hlt := fun i _ c hc => by have := chF_mem P len i c hc; omega
  hkd := fun i hi => by rw [s.cellN i hi 0 (by omega), (t i (by omega)).2.2.2.2.1]
  hnm := fun i hi => by rw [s.cellN i hi 1 (by omega), (t i (by omega)).2.2.2.2.2.1]
  hmd := fun i hi => by rw [s.cellN i hi 2 (by omega), (t i (by omega)).2.2.2.2.2.2]
  hch := fun i hi => ⟨_, s.cellN i hi 6 (by omega), ptrs_of_own (s.oc i hi)⟩
  hfew := fun i _ => by have := chF_few P len i; omega

theorem St.below {cc ck : Nat → List Nat} {n k : Nat} {w' : World} (s : St w0 w m0 m1 bm tb B n k F nb nf cc ck) (h : Below w.heap.size w w') : St w0 w' m0 m1 bm tb B n k F nb nf cc ck :=
  s.grown ⟨h.os, h.tape, h.output, h.size, fun k hk _ => h.block k hk⟩
end

theorem run_eql_nil_ptr (w : World) {tp te : TypeId} (b : Option Addr) (hp : Yba.prog.underlying tp = some (.pointer te)) : (binOp .eql tp (.pointer none) (.pointer b)).run Yba.prog w = .ok (.bool b.isNone) w := by
  have h : ∀ d : Nat, (Op.equalIn (d + 1) tp (.pointer none) (.pointer b)).run Yba.prog w = .ok b.isNone w := fun d => by
    cases b <;> simp [Op.equalIn, run_underlying hp]
  simp only [binOp]
  simp [Op.equal, Op.maxDepth, h 9999]

theorem run_neq_ptr_same (w : World) {tp te : TypeId} {j : TypeInfo} (a : Option Addr) (hp : Yba.prog.underlying tp = some (.pointer te)) (hte : Yba.prog.info? te = some j) : (binOp .neq tp (.pointer a) (.pointer a)).run Yba.prog w = .ok (.bool false) w := by
  have h : ∀ d : Nat, (Op.equalIn (d + 1) tp (.pointer a) (.pointer a)).run Yba.prog w = .ok true w := fun d => by
    cases a <;> simp [Op.equalIn, run_underlying hp, sizeOf, typeInfo, hte, run_sameAddr_same]
  simp only [binOp]
  simp [Op.equal, Op.maxDepth, h 9999]

theorem Yba.size30 : (Yba.prog.info? 30).map (·.size) = some 11 := by kernel_rfl
theorem Yba.size45 : (Yba.prog.info? 45).map (·.size) = some 22 := by kernel_rfl

theorem St.modEq {w0 w : World} {m0 m1 bm : Nat} {tb : Nat → Nat} {B n k : Nat} {F : Nat → Nat → Value} {nb : Nat → Nat} {nf : Nat → Nat → Value} {cc ck : Nat → List Nat} (s : St w0 w m0 m1 bm tb B n k F nb nf cc ck) (a b : Nat) (ha : a < 3) (hb : b < 3) :
    (binOp .eql 23 (.pointer (modP m0 m1 a)) (.pointer (modP m0 m1 b))).run Yba.prog w = .ok (.bool (a == b)) w := by
  obtain ⟨j, hj, hjs⟩ := Option.map_eq_some_iff.1 Yba.size30
  obtain ⟨c0, hc0⟩ := s.mod0
  obtain ⟨c1, hc1⟩ := s.mod1
  have hne : (⟨m0, 0, none⟩ : Addr) ≠ ⟨m1, 0, none⟩ := fun e => by have h1 := s.lo1; have h2 : m0 = m1 := congrArg Addr.block e; omega
  match a, b, ha, hb with
  | 0, 0, _, _ => exact run_eql_ptr_same w _ Yba.underlying23 hj
  | 1, 1, _, _ => exact run_eql_ptr_same w _ Yba.underlying23 hj
  | 0, 1, _, _ => exact run_eql_ptr_other w Yba.underlying23 hj (by rw [hjs]; decide) hne hc0 hc1
  | 1, 0, _, _ => exact run_eql_ptr_other w Yba.underlying23 hj (by rw [hjs]; decide) hne.symm hc1 hc0
  | 2, 0, _, _ => exact run_eql_nil_ptr w _ Yba.underlying23
  | 2, 1, _, _ => exact run_eql_nil_ptr w _ Yba.underlying23
  | 2, 2, _, _ => exact run_eql_nil_ptr w _ Yba.underlying23
  | 0, 2, _, _ => exact run_eql_pointer_nil w 23 _ (by kernel_rfl)
  | 1, 2, _, _ => exact run_eql_pointer_nil w 23 _ (by kernel_rfl)


theorem own_form {w : World} {base : Nat} {e : TypeId} {v : Value} {n : Nat} {xs : List Value} (h : w.ownsRow base e 1 v n xs) : ∃ ao cap, v = .slice ao n cap := by
  rcases h.2 with ⟨rfl, rfl⟩ | ⟨g, cap, cur, rfl, _⟩
  · exact ⟨_, _, rfl⟩
  · exact ⟨_, _, rfl⟩

/-- What the last loops read of node k. -/
theorem St.look {w0 w : World} {m0 m1 bm : Nat} {tb : Nat → Nat} {B len : Nat} {F : Nat → Nat → Value} {nb : Nat → Nat} {nf : Nat → Nat → Value} {K N M P : Nat → Int} (s : St w0 w m0 m1 bm tb B (len + 1) (len + 1) F nb nf (chF P len) (chF P len)) (t : Tabs K N M m0 m1 len F nb nf) (k : Nat) (hk : k < len + 1) :
    ∃ ao4 cp4 ao6 cp6, F 4 k = .slice ao4 (chF P len k).length cp4 ∧ nf k 6 = .slice ao6 (chF P len k).length cp6 ∧
      ∀ j, j < (chF P len k).length → ∃ g4 g6 x, ao4 = some ⟨g4, 0, none⟩ ∧ ao6 = some ⟨g6, 0, none⟩ ∧ x < len + 1 ∧ w.cell? ⟨g4, j, none⟩ = some (.int .i64 (x : Nat)) ∧ w.cell? ⟨g6, j, none⟩ = some (.pointer (some ⟨nb x, 0, none⟩)) ∧ w.cell? ⟨tb 0, x, none⟩ = some (.pointer (some ⟨nb x, 0, none⟩)) := by
  have h4 := s.ok k hk
  have h6 := s.oc k hk
  obtain ⟨ao4, cp4, e4⟩ := own_form h4
  obtain ⟨ao6, cp6, e6⟩ := own_form h6
  refine ⟨ao4, cp4, ao6, cp6, e4, e6, fun j hj => ?_⟩
  have i4 := ints_of_own h4 (Nat.le_refl _)
  have i6 := ptrs_of_own h6
  rw [e4] at i4
  rw [e6] at i6
  rcases i4 with ⟨_, hn⟩ | ⟨g4, q4, _, hv4, hc4⟩
  · rw [hn] at hj; simp at hj
  rcases i6 with ⟨_, hn⟩ | ⟨g6, q6, hv6, hc6⟩
  · rw [hn] at hj; simp at hj
  simp only [Value.slice.injEq] at hv4 hv6
  have hmem : (chF P len k).getD j 0 ∈ chF P len k := by simp [List.getD, hj]
  have hx := chF_mem P len k _ hmem
  refine ⟨g4, g6, (chF P len k).getD j 0, hv4.1, hv6.1, by omega, hc4 j hj, hc6 j hj, ?_⟩
  rw [s.cellT 0 (by omega) _ (by omega), (t _ (by omega)).1]

end Go.Proofs.YbulkdpbaR
