/-
  Seat b5798a: the plain tables, and the state behind the makes. By an AI agent.
-/
import Derived.Test.YbulkdpbaRSt
import Derived.Deep.CutRange
namespace Go.Proofs.YbulkdpbaR
open Go.RowKit

theorem Yba.info36 : (Yba.prog.info? 36).map (fun i => (i.zero, i.size, i.bytes)) = some (some (.pointer none), 1, 8) := by kernel_rfl
theorem Yba.info37 : (Yba.prog.info? 37).map (fun i => (i.zero, i.size, i.bytes)) = some (some (.int .i64 0), 1, 8) := by kernel_rfl
theorem Yba.info9 : (Yba.prog.info? 9).map (fun i => (i.zero, i.size, i.bytes)) = some (some (.string ⟨#[]⟩), 1, 16) := by kernel_rfl
theorem Yba.info34 : (Yba.prog.info? 34).map (fun i => (i.zero, i.size, i.bytes)) = some (some (.slice none 0 0), 1, 24) := by kernel_rfl

def kdF (K : Nat → Int) (i : Nat) : Int := if i = 0 then 1 else kindOf (K (i - 1))
def nmF (N : Nat → Int) (i : Nat) : ByteArray := if i = 0 then ⟨#[114]⟩ else nameOf (N (i - 1))
def miF (M : Nat → Int) (i : Nat) : Nat := if i = 0 then 2 else (M (i - 1) % 3).toNat
def parF (P : Nat → Int) (i : Nat) : Nat := (P (i - 1) % (i : Int)).toNat
def chF (P : Nat → Int) : Nat → Nat → List Nat
  | 0, _ => []
  | k + 1, i => if i = parF P (k + 1) then chF P k i ++ [k + 1] else chF P k i

def zeroF (r : Nat) (_ : Nat) : Value := if r = 0 then .pointer none else if r = 1 then .int .i64 0 else if r = 2 then .string ⟨#[]⟩ else if r = 3 then .int .i64 0 else .slice none 0 0

def Tabs (K N M : Nat → Int) (m0 m1 k : Nat) (F : Nat → Nat → Value) (nb : Nat → Nat) (nf : Nat → Nat → Value) : Prop :=
  ∀ j, j ≤ k → F 0 j = .pointer (some ⟨nb j, 0, none⟩) ∧ F 1 j = .int .i64 (kdF K j) ∧ F 2 j = .string (nmF N j) ∧ F 3 j = .int .i64 (miF M j) ∧ nf j 0 = .int .i64 (kdF K j) ∧ nf j 1 = .string (nmF N j) ∧ nf j 2 = modAt m0 m1 (miF M j)

theorem wp_gen {P : Program} {c : Code} {Q : Exit → Act → World → Prop} {a : Act} {W : World} (R : World → Prop) (h : R W) (h2 : ∀ w, R w → Code.wp P c Q a w) : Code.wp P c Q a W := h2 W h


section
variable {w0 w : World} {m0 m1 bm : Nat} {tb : Nat → Nat} {B n k : Nat} {F : Nat → Nat → Value} {nb : Nat → Nat} {nf : Nat → Nat → Value} {cc ck : Nat → List Nat}
theorem St.cellT (s : St w0 w m0 m1 bm tb B n k F nb nf cc ck) (r : Nat) (hr : r < 5) (i : Nat) (hi : i < n) : w.cell? ⟨tb r, i, none⟩ = some (F r i) := (s.rows r hr).cell hi
theorem St.freeT (s : St w0 w m0 m1 bm tb B n k F nb nf cc ck) (r : Nat) (hr : r < 5) (i : Nat) : w.frozen? ⟨tb r, i, none⟩ = false := (s.rows r hr).frozen i
theorem St.cellN (s : St w0 w m0 m1 bm tb B n k F nb nf cc ck) (i : Nat) (hi : i < k) (q : Nat) (hq : q < 22) : w.cell? ⟨nb i, q, none⟩ = some (nf i q) := (s.nd i hi).cell hq
theorem St.freeN (s : St w0 w m0 m1 bm tb B n k F nb nf cc ck) (i : Nat) (hi : i < k) (q : Nat) : w.frozen? ⟨nb i, q, none⟩ = false := (s.nd i hi).frozen q
theorem St.cellM (s : St w0 w m0 m1 bm tb B n k F nb nf cc ck) (i : Nat) (hi : i < 3) : w.cell? ⟨bm, i, none⟩ = some (modAt m0 m1 i) := s.mods.cell hi
end

/-- The state behind the makes. -/
theorem St_start (w : World) (n : Nat) (c0 c1 : Array Value) (cc : Nat → List Nat) (nb : Nat → Nat) (nf : Nat → Nat → Value) (hcc : ∀ i, cc i = []) :
    St w ((((((((w.alloc (.cells c0 30)).alloc (.cells c1 30)).alloc (.cells #[.pointer (some ⟨w.heap.size, 0, none⟩), .pointer (some ⟨w.heap.size + 1, 0, none⟩), .pointer none] 23)).alloc (.cells (madeCells #[.pointer none] n) 36)).alloc
      (.cells (madeCells #[.int .i64 0] n) 37)).alloc (.cells (madeCells #[.string ⟨#[]⟩] n) 9)).alloc (.cells (madeCells #[.int .i64 0] n) 3)).alloc (.cells (madeCells #[.slice none 0 0] n) 34))
      w.heap.size (w.heap.size + 1) (w.heap.size + 2) (fun r => w.heap.size + 3 + r) (w.heap.size + 8) n 0 zeroF nb nf cc cc := by
  obtain ⟨w1, h1⟩ : ∃ W, W = w.alloc (.cells c0 30) := ⟨_, rfl⟩
  obtain ⟨w2, h2⟩ : ∃ W, W = w1.alloc (.cells c1 30) := ⟨_, rfl⟩
  obtain ⟨w3, h3⟩ : ∃ W, W = w2.alloc (.cells #[.pointer (some ⟨w.heap.size, 0, none⟩), .pointer (some ⟨w.heap.size + 1, 0, none⟩), .pointer none] 23) := ⟨_, rfl⟩
  obtain ⟨w4, h4⟩ : ∃ W, W = w3.alloc (.cells (madeCells #[.pointer none] n) 36) := ⟨_, rfl⟩
  obtain ⟨w5, h5⟩ : ∃ W, W = w4.alloc (.cells (madeCells #[.int .i64 0] n) 37) := ⟨_, rfl⟩
  obtain ⟨w6, h6⟩ : ∃ W, W = w5.alloc (.cells (madeCells #[.string ⟨#[]⟩] n) 9) := ⟨_, rfl⟩
  obtain ⟨w7, h7⟩ : ∃ W, W = w6.alloc (.cells (madeCells #[.int .i64 0] n) 3) := ⟨_, rfl⟩
  obtain ⟨w8, h8⟩ : ∃ W, W = w7.alloc (.cells (madeCells #[.slice none 0 0] n) 34) := ⟨_, rfl⟩
  rw [← h1, ← h2, ← h3, ← h4, ← h5, ← h6, ← h7, ← h8]
  have z1 : w1.heap.size = w.heap.size + 1 := by rw [h1, Deep.nblk_alloc]
  have z2 : w2.heap.size = w.heap.size + 2 := by rw [h2, Deep.nblk_alloc, z1]
  have z3 : w3.heap.size = w.heap.size + 3 := by rw [h3, Deep.nblk_alloc, z2]
  have z4 : w4.heap.size = w.heap.size + 4 := by rw [h4, Deep.nblk_alloc, z3]
  have z5 : w5.heap.size = w.heap.size + 5 := by rw [h5, Deep.nblk_alloc, z4]
  have z6 : w6.heap.size = w.heap.size + 6 := by rw [h6, Deep.nblk_alloc, z5]
  have z7 : w7.heap.size = w.heap.size + 7 := by rw [h7, Deep.nblk_alloc, z6]
  have z8 : w8.heap.size = w.heap.size + 8 := by rw [h8, Deep.nblk_alloc, z7]
  have g1 : w.grownBy w1 none := h1 ▸ World.grownBy_alloc w _ none
  have g2 : w1.grownBy w2 none := h2 ▸ World.grownBy_alloc w1 _ none
  have g3 : w2.grownBy w3 none := h3 ▸ World.grownBy_alloc w2 _ none
  have g4 : w3.grownBy w4 none := h4 ▸ World.grownBy_alloc w3 _ none
  have g5 : w4.grownBy w5 none := h5 ▸ World.grownBy_alloc w4 _ none
  have g6 : w5.grownBy w6 none := h6 ▸ World.grownBy_alloc w5 _ none
  have g7 : w6.grownBy w7 none := h7 ▸ World.grownBy_alloc w6 _ none
  have g8 : w7.grownBy w8 none := h8 ▸ World.grownBy_alloc w7 _ none
  have a0 : ∃ c, w1.heap[w.heap.size]? = some (.cells c 30 (0, 0)) := ⟨c0, by rw [h1]; exact Deep.blk_alloc_new _ _⟩
  have a1 : ∃ c, w2.heap[w.heap.size + 1]? = some (.cells c 30 (0, 0)) := ⟨c1, by rw [h2, ← z1]; exact Deep.blk_alloc_new _ _⟩
  have a2 : w3.rowIs (w.heap.size + 2) 23 3 (modAt w.heap.size (w.heap.size + 1)) := by
    rw [h3, ← z2]
    refine World.rowIs_alloc w2 _ 23 _ ?_
    intro i hi
    match i, hi with
    | 0, _ => rfl
    | 1, _ => rfl
    | 2, _ => rfl
  have r0 : w4.rowIs (w.heap.size + 3) 36 n (zeroF 0) := by rw [h4, ← z3]; exact World.rowIs_made _ _ _ _
  have r1 : w5.rowIs (w.heap.size + 4) 37 n (zeroF 1) := by rw [h5, ← z4]; exact World.rowIs_made _ _ _ _
  have r2 : w6.rowIs (w.heap.size + 5) 9 n (zeroF 2) := by rw [h6, ← z5]; exact World.rowIs_made _ _ _ _
  have r3 : w7.rowIs (w.heap.size + 6) 3 n (zeroF 3) := by rw [h7, ← z6]; exact World.rowIs_made _ _ _ _
  have r4 : w8.rowIs (w.heap.size + 7) 34 n (zeroF 4) := by rw [h8, ← z7]; exact World.rowIs_made _ _ _ _
  have ne : ∀ b : Nat, some b ≠ (none : Option Nat) := by simp
  exact {
    bel := (((((((((Below.refl _ w).grown g1 (by omega) (by simp)).grown g2 (by omega) (by simp)).grown g3 (by omega) (by simp)).grown g4 (by omega) (by simp)).grown g5 (by omega) (by simp)).grown g6 (by omega) (by simp)).grown g7 (by omega) (by simp)).grown g8 (by omega) (by simp))
    lo0 := Nat.le_refl _
    lo1 := by omega
    lo2 := by omega
    lo3 := fun r hr => by constructor <;> omega
    inj := fun r s _ _ e => by omega
    size := by omega
    mod0 := blk_grown g8 (blk_grown g7 (blk_grown g6 (blk_grown g5 (blk_grown g4 (blk_grown g3 (blk_grown g2 a0 (ne _)) (ne _)) (ne _)) (ne _)) (ne _)) (ne _)) (ne _)
    mod1 := blk_grown g8 (blk_grown g7 (blk_grown g6 (blk_grown g5 (blk_grown g4 (blk_grown g3 a1 (ne _)) (ne _)) (ne _)) (ne _)) (ne _)) (ne _)
    mods := rowIs_grown g8 (rowIs_grown g7 (rowIs_grown g6 (rowIs_grown g5 (rowIs_grown g4 a2 (ne _)) (ne _)) (ne _)) (ne _)) (ne _)
    rows := fun r hr => by
      match r, hr with
      | 0, _ => exact rowIs_grown g8 (rowIs_grown g7 (rowIs_grown g6 (rowIs_grown g5 r0 (ne _)) (ne _)) (ne _)) (ne _)
      | 1, _ => exact rowIs_grown g8 (rowIs_grown g7 (rowIs_grown g6 r1 (ne _)) (ne _)) (ne _)
      | 2, _ => exact rowIs_grown g8 (rowIs_grown g7 r2 (ne _)) (ne _)
      | 3, _ => exact rowIs_grown g8 r3 (ne _)
      | 4, _ => exact r4
    nd := fun i hi => by omega
    nbB := fun i hi => by omega
    nbI := fun i j hi => by omega
    oc := fun i hi => by omega
    ok := fun i _ => by rw [hcc i]; exact World.ownsRow_nil _ _ _ _
    dc := fun i j hi => by omega
    dk := fun i j _ _ _ => .inl rfl
    few := fun i hi => by omega }


/-- A node's cells: kind, name, module, parent; the rest zero. -/
abbrev nodeCells (a b c d : Value) : Array Value :=
  #[a, b, c, .pointer none, .slice none 0 0, d, .slice none 0 0, .slice none 0 0, .slice none 0 0, .pointer none, .bool false, .bool false, .bool false, .bool false, .int .u64 0, .int .u64 0, .slice none 0 0, .slice none 0 0, .pointer none, .slice none 0 0, .slice none 0 0, .pointer none]

theorem nodeCells_get (a b c d : Value) (i : Nat) (hi : i < 22) : (nodeCells a b c d)[i]? = some ((nodeCells a b c d).getD i undef) := by
  have : (nodeCells a b c d).size = 22 := rfl
  simp only [Array.getD, this, hi, dif_pos]
  exact Array.getElem?_eq_getElem (by omega)

theorem St.root {w0 w : World} {m0 m1 bm : Nat} {tb : Nat → Nat} {B n : Nat} {nb : Nat → Nat} {nf : Nat → Nat → Value} {P : Nat → Int} (s : St w0 w m0 m1 bm tb B n 0 zeroF nb nf (chF P 0) (chF P 0)) :
    ∃ F nb nf, St w0 ((w.alloc (.cells (nodeCells (.int .i64 1) (.string ⟨#[114]⟩) (.pointer none) (.pointer none)) 45)).setCell ⟨tb 0, 0, none⟩ (.pointer (some ⟨w.heap.size, 0, none⟩))) m0 m1 bm tb B n 1 F nb nf (chF P 0) (chF P 0) ∧
      F 0 0 = .pointer (some ⟨nb 0, 0, none⟩) ∧ nf 0 0 = .int .i64 1 ∧ nf 0 1 = .string ⟨#[114]⟩ ∧ nf 0 2 = .pointer none := by
  have s1 := s.node (nodeCells (.int .i64 1) (.string ⟨#[114]⟩) (.pointer none) (.pointer none)) (fun i => (nodeCells (.int .i64 1) (.string ⟨#[114]⟩) (.pointer none) (.pointer none)).getD i undef) rfl (nodeCells_get _ _ _ _) rfl rfl
  exact ⟨_, _, _, s1.set 0 (by omega) 0 (.pointer (some ⟨w.heap.size, 0, none⟩)), rfl, rfl, rfl, rfl⟩

theorem Tabs_zero {K N M : Nat → Int} {m0 m1 : Nat} {F : Nat → Nat → Value} {nb : Nat → Nat} {nf : Nat → Nat → Value} (h0 : F 0 0 = .pointer (some ⟨nb 0, 0, none⟩)) (h1 : F 1 0 = .int .i64 1) (h2 : F 2 0 = .string ⟨#[114]⟩) (h3 : F 3 0 = .int .i64 2)
    (h4 : nf 0 0 = .int .i64 1) (h5 : nf 0 1 = .string ⟨#[114]⟩) (h6 : nf 0 2 = .pointer none) : Tabs K N M m0 m1 0 F nb nf := by
  intro j hj
  obtain rfl : j = 0 := by omega
  exact ⟨h0, h1, h2, h3, h4, h5, h6⟩


theorem par_eq (P : Nat → Int) (k : Nat) : P k % ((k : Int) + 1) = (parF P (k + 1) : Int) := by
  have h : 0 ≤ P k % ((k : Int) + 1) := Int.emod_nonneg _ (by omega)
  unfold parF
  rw [Int.toNat_of_nonneg (by simpa using h)]
  simp
theorem par_le (P : Nat → Int) (k : Nat) : parF P (k + 1) ≤ k := by
  have h := Int.emod_lt_of_pos (P k) (show (0 : Int) < (k : Int) + 1 by omega)
  rw [par_eq] at h
  omega
theorem mi_eq (M : Nat → Int) (k : Nat) : M k % 3 = (miF M (k + 1) : Int) := by
  have h : 0 ≤ M k % 3 := Int.emod_nonneg _ (by omega)
  simp only [miF, Nat.add_eq_zero_iff, Nat.one_ne_zero, and_false, if_false, Nat.add_sub_cancel]
  omega
theorem mi_lt (M : Nat → Int) (k : Nat) : miF M k < 3 := by
  unfold miF
  split <;> omega
theorem kd_succ (K : Nat → Int) (k : Nat) : kdF K (k + 1) = kindOf (K k) := by simp [kdF]
theorem nm_succ (N : Nat → Int) (k : Nat) : nmF N (k + 1) = nameOf (N k) := by simp [nmF]


/-- A store into table r leaves a block from B on as it was. -/
theorem St.keepBlk {w0 w : World} {m0 m1 bm : Nat} {tb : Nat → Nat} {B n k : Nat} {F : Nat → Nat → Value} {nb : Nat → Nat} {nf : Nat → Nat → Value} {cc ck : Nat → List Nat} (s : St w0 w m0 m1 bm tb B n k F nb nf cc ck) {sb : Nat} {o : Obj} (hB : B ≤ sb)
    (h : w.heap[sb]? = some o) (r : Nat) (hr : r < 5) (i : Nat) (v : Value) : (w.setCell ⟨tb r, i, none⟩ v).heap[sb]? = some o := by
  rw [Deep.blk_setCell_other _ _ _ _ (by have := (s.lo3 r hr).2; simp; omega)]; exact h


theorem chF_nil (P : Nat → Int) : ∀ (k i : Nat), k ≤ i → chF P k i = []
  | 0, _, _ => rfl
  | k + 1, i, h => by
    have := par_le P k
    simp only [chF]
    rw [if_neg (by omega)]
    exact chF_nil P k i (by omega)

theorem chF_succ (P : Nat → Int) (k : Nat) : chF P (k + 1) = fun i => if i = parF P (k + 1) then chF P k (parF P (k + 1)) ++ [k + 1] else chF P k i := by
  funext i
  simp only [chF]
  split
  · rename_i h; rw [h]
  · rfl

theorem chF_few (P : Nat → Int) : ∀ (k i : Nat), (chF P k i).length ≤ k
  | 0, _ => Nat.le_refl _
  | k + 1, i => by
    have := chF_few P k i
    simp only [chF]
    split
    · simp; omega
    · omega

/-- The new node, laid and entered into the table. -/
theorem St.next {w0 w : World} {m0 m1 bm : Nat} {tb : Nat → Nat} {B n k p mi : Nat} {F F' : Nat → Nat → Value} {nb : Nat → Nat} {nf : Nat → Nat → Value} {K N M P : Nat → Int} (s : St w0 w m0 m1 bm tb B n (k + 1) F' nb nf (chF P k) (chF P k)) (ht : Tabs K N M m0 m1 k F nb nf)
    (f1 : F' 1 (k + 1) = .int .i64 (kindOf (K k))) (f2 : F' 2 (k + 1) = .string (nameOf (N k))) (f3 : F' 3 (k + 1) = .int .i64 (mi : Int)) (fo : ∀ q j, q < 4 → j ≤ k → F' q j = F q j) (hmi : mi = miF M (k + 1)) :
    ∃ F2 nb2 nf2, St w0 ((w.alloc (.cells (nodeCells (.int .i64 (kindOf (K k))) (.string (nameOf (N k))) (modAt m0 m1 mi) (.pointer (some ⟨nb p, 0, none⟩))) 45)).setCell ⟨tb 0, k + 1, none⟩ (.pointer (some ⟨w.heap.size, 0, none⟩))).drew m0 m1 bm tb B n (k + 2) F2 nb2 nf2 (chF P k) (chF P k) ∧
      Tabs K N M m0 m1 (k + 1) F2 nb2 nf2 := by
  have s1 := s.node (nodeCells (.int .i64 (kindOf (K k))) (.string (nameOf (N k))) (modAt m0 m1 mi) (.pointer (some ⟨nb p, 0, none⟩))) (fun i => (nodeCells (.int .i64 (kindOf (K k))) (.string (nameOf (N k))) (modAt m0 m1 mi) (.pointer (some ⟨nb p, 0, none⟩))).getD i undef) rfl (nodeCells_get _ _ _ _) rfl (chF_nil P k (k + 1) (by omega))
  refine ⟨_, _, _, (s1.set 0 (by omega) (k + 1) (.pointer (some ⟨w.heap.size, 0, none⟩))).drew, ?_⟩
  intro j hj
  by_cases e : j = k + 1
  · subst e
    refine ⟨by simp, ?_, ?_, ?_, ?_, ?_, ?_⟩
    · simp [f1, kd_succ]
    · simp [f2, nm_succ]
    · simp [f3, hmi]
    · simp only [if_pos, kd_succ]; rfl
    · simp only [if_pos, nm_succ]; rfl
    · simp only [if_pos, ← hmi]; rfl
  · have hjk : j ≤ k := by omega
    obtain ⟨t0, t1, t2, t3, t4, t5, t6⟩ := ht j hjk
    refine ⟨?_, ?_, ?_, ?_, ?_, ?_, ?_⟩
    · simp [e, fo 0 j (by omega) hjk, t0]
    · simp [fo 1 j (by omega) hjk, t1]
    · simp [fo 2 j (by omega) hjk, t2]
    · simp [fo 3 j (by omega) hjk, t3]
    · simp only [if_neg e]; exact t4
    · simp only [if_neg e]; exact t5
    · simp only [if_neg e]; exact t6

/-! append as one operation of a region that draws: its value and its world by name -/
def outV : Result Value → Value
  | .ok v' _ => v'
  | _ => undef
def outW (w : World) : Result Value → World
  | .ok _ w' => w'
  | _ => w
def appV (P : Program) (v x : Value) (w : World) : Value := outV ((Builtin.append_ #[32, 32] 32 #[v, x]).run P w)
def appW (P : Program) (v x : Value) (w : World) : World := outW w ((Builtin.append_ #[32, 32] 32 #[v, x]).run P w)
def AppOK (v x : Value) (w : World) : Prop := (Builtin.append_ #[32, 32] 32 #[v, x]).run Yba.prog w = .ok (appV Yba.prog v x w) (appW Yba.prog v x w)

theorem app_of {v x v' : Value} {w w' : World} (h : (Builtin.append_ #[32, 32] 32 #[v, x]).run Yba.prog w = .ok v' w') : AppOK v x w ∧ appV Yba.prog v x w = v' ∧ appW Yba.prog v x w = w' := by
  unfold AppOK appV appW
  rw [h]
  exact ⟨rfl, rfl, rfl⟩

theorem run_app_op {ρ : Operand → Value} {dst : Option Tmp} {pos : String} {after : Array Edge} {gd : Option (Nat × Bool)} {s x : Operand} {w : World} (h : AppOK (ρ s) (ρ x) w) :
    (execOp ρ ⟨dst, Op.call { callee := .builtin .append, args := #[s, x], argTypes := #[32, 32] }, 32, pos, after, gd⟩).run Yba.prog w = .ok (.value (appV Yba.prog (ρ s) (ρ x) w)) (appW Yba.prog (ρ s) (ρ x) w) := by
  unfold AppOK at h
  simp only [execOp, resolve, invoke, builtin, Sem.run_bind, Sem.run_pure, Result.andThen_ok, List.map_toArray, List.map_cons, List.map_nil, h]


/-- The append to node p's children, run. -/
theorem St.childRun {w0 w : World} {m0 m1 bm : Nat} {tb : Nat → Nat} {B n k p x : Nat} {F : Nat → Nat → Value} {nb : Nat → Nat} {nf : Nat → Nat → Value} {cc ck : Nat → List Nat} (s : St w0 w m0 m1 bm tb B n k F nb nf cc ck) (hp : p < k) (hx : x < k) (hlen : (cc p).length ≤ 2000) :
    ∃ g cap w1, AppOK (nf p 6) (.slice (some ⟨w.heap.size, 0, none⟩) 1 1) (w.alloc (.cells #[.pointer (some ⟨nb x, 0, none⟩)] 36)).drew ∧
      appV Yba.prog (nf p 6) (.slice (some ⟨w.heap.size, 0, none⟩) 1 1) (w.alloc (.cells #[.pointer (some ⟨nb x, 0, none⟩)] 36)).drew = .slice (some ⟨g, 0, none⟩) ((cc p).length + 1) cap ∧
      appW Yba.prog (nf p 6) (.slice (some ⟨w.heap.size, 0, none⟩) 1 1) (w.alloc (.cells #[.pointer (some ⟨nb x, 0, none⟩)] 36)).drew = w1 ∧
      w1.cell? ⟨nb p, 6, none⟩ = some (nf p 6) ∧ w1.frozen? ⟨nb p, 6, none⟩ = false ∧ (∀ j, j < n → w1.cell? ⟨tb 0, j, none⟩ = some (F 0 j)) ∧
      St w0 (w1.setCell ⟨nb p, 6, none⟩ (.slice (some ⟨g, 0, none⟩) ((cc p).length + 1) cap)) m0 m1 bm tb B n k F nb (fun i q => if i = p then (if q = 6 then .slice (some ⟨g, 0, none⟩) ((cc p).length + 1) cap else nf p q) else nf i q) (fun i => if i = p then cc p ++ [x] else cc i) ck := by
  obtain ⟨i0, hi0, hz0, hz1, hz2⟩ := info_parts Yba.info36
  have s1 := (s.alloc (.cells #[.pointer (some ⟨nb x, 0, none⟩)] 36)).drew
  have hcell : ∀ j u, [Value.pointer (some ⟨nb x, 0, none⟩)][j]? = some u → (w.alloc (.cells #[.pointer (some ⟨nb x, 0, none⟩)] 36)).drew.cell? ((⟨w.heap.size, 0, none⟩ : Addr).add j) = some u :=
    World.news_of_block (w := (w.alloc (.cells #[.pointer (some ⟨nb x, 0, none⟩)] 36)).drew) (cs := #[.pointer (some ⟨nb x, 0, none⟩)]) (t := 36) (fr := (0, 0)) (heap_alloc_new _ _)
  obtain ⟨g, cap, w1, hr, h2, h3, h4, h5⟩ := run_append_lies (P := Yba.prog) (w.alloc (.cells #[.pointer (some ⟨nb x, 0, none⟩)] 36)).drew 32 32 B 36 i0 (.pointer none) 1 8 Yba.underlying32 hi0 hz0 hz1 hz2 rfl (by decide) (nf p 6) (cc p).length (ptrVals nb (cc p)) (s1.oc p hp)
    ⟨w.heap.size, 0, none⟩ 1 1 [.pointer (some ⟨nb x, 0, none⟩)] rfl hcell (by intro u hu; simp at hu; subst hu; rfl) (by decide) (by unfold maxLen; omega) (by omega) s1.size _ rfl
  obtain ⟨a1, a2, a3⟩ := app_of hr
  have hne : some (nb p) ≠ (nf p 6).ownBlock := fun e => type_ne (row_type (s1.nd p hp)) (own_block (s1.oc p hp) e.symm) (by decide) rfl
  have hne0 : some (tb 0) ≠ (nf p 6).ownBlock := fun e => by have := ((s1.oc p hp).lt _ e.symm).1; have := (s.lo3 0 (by omega)).2; omega
  refine ⟨g, cap, w1, a1, a2, a3, ?_, ?_, fun j hj => ?_, ?_⟩
  · rw [h3.cell_far ⟨nb p, 6, none⟩ (s1.nd p hp).lt hne]; exact s1.cellN p hp 6 (by omega)
  · rw [h3.frozen_far ⟨nb p, 6, none⟩ (s1.nd p hp).lt hne]; exact s1.freeN p hp 6
  · rw [h3.cell_far ⟨tb 0, j, none⟩ (s1.rows 0 (by omega)).lt hne0]; exact s1.cellT 0 (by omega) j hj
  · refine s1.child hp hx h2 h3 ?_
    rcases h4 with h4 | h4
    · exact .inl h4
    · right; rw [← h4]; rfl


theorem Tabs_child {K N M : Nat → Int} {m0 m1 k p : Nat} {F : Nat → Nat → Value} {nb : Nat → Nat} {nf : Nat → Nat → Value} {v : Value} (h : Tabs K N M m0 m1 k F nb nf) : Tabs K N M m0 m1 k F nb (fun i q => if i = p then (if q = 6 then v else nf p q) else nf i q) := by
  intro j hj
  obtain ⟨t0, t1, t2, t3, t4, t5, t6⟩ := h j hj
  refine ⟨t0, t1, t2, t3, ?_, ?_, ?_⟩
  · by_cases e : j = p
    · subst e; simpa using t4
    · simpa [e] using t4
  · by_cases e : j = p
    · subst e; simpa using t5
    · simpa [e] using t5
  · by_cases e : j = p
    · subst e; simpa using t6
    · simpa [e] using t6

theorem Tabs_kid {K N M : Nat → Int} {m0 m1 k p : Nat} {F : Nat → Nat → Value} {nb : Nat → Nat} {nf : Nat → Nat → Value} {v : Value} (h : Tabs K N M m0 m1 k F nb nf) : Tabs K N M m0 m1 k (fun q j => if q = 4 then (if j = p then v else F 4 j) else F q j) nb nf := by
  intro j hj
  obtain ⟨t0, t1, t2, t3, t4, t5, t6⟩ := h j hj
  exact ⟨by simpa using t0, by simpa using t1, by simpa using t2, by simpa using t3, t4, t5, t6⟩

theorem St.chSucc {w0 w : World} {m0 m1 bm : Nat} {tb : Nat → Nat} {B n k k' p : Nat} {F : Nat → Nat → Value} {nb : Nat → Nat} {nf : Nat → Nat → Value} {P : Nat → Int} {ck : Nat → List Nat} (s : St w0 w m0 m1 bm tb B n k' F nb nf (fun i => if i = p then chF P k p ++ [k + 1] else chF P k i) ck) (hp : p = parF P (k + 1)) :
    St w0 w m0 m1 bm tb B n k' F nb nf (chF P (k + 1)) ck := by
  rw [chF_succ, ← hp]; exact s
theorem St.ckSucc {w0 w : World} {m0 m1 bm : Nat} {tb : Nat → Nat} {B n k k' p : Nat} {F : Nat → Nat → Value} {nb : Nat → Nat} {nf : Nat → Nat → Value} {P : Nat → Int} {cc : Nat → List Nat} (s : St w0 w m0 m1 bm tb B n k' F nb nf cc (fun i => if i = p then chF P k p ++ [k + 1] else chF P k i)) (hp : p = parF P (k + 1)) :
    St w0 w m0 m1 bm tb B n k' F nb nf cc (chF P (k + 1)) := by
  rw [chF_succ, ← hp]; exact s

end Go.Proofs.YbulkdpbaR
