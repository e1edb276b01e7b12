/-
  Seat b5800a: zzs5800bcopy, bytes.Equal, order.separator by their contracts. By an AI agent.
-/
import Derived.Test.YbulkdpccBase
import Derived.Laws.Rows
namespace Go.Proofs.Ybulkdpcc
open Go.RowKit

theorem made_rep (v : Value) (n : Nat) : madeCells #[v] n = (List.replicate n v).toArray := by
  apply Array.ext
  · simp [madeCells]
  · intro i h1 h2; simp [madeCells, Nat.mod_one]

theorem row_splice {w : World} {pb len : Nat} {z : Nat → Int} (hz : ∀ j, j < len → 0 ≤ z j ∧ z j ≤ 255) (h : w.heap[pb]? = some (.cells (splice (List.replicate len (Value.int .u8 0)) 0 ((List.range len).map fun i => Value.int .u8 (z i))).toArray 5 (0, 0))) :
    Row w (some ⟨pb, 0, none⟩) len z := by
  refine ⟨fun j hj => ⟨pb, 0, rfl, ?_, hz j hj⟩⟩
  simp [World.cell?, h, splice, hj]

/-- zzs5800bcopy. -/
theorem copy_any (a : Option Addr) (len cap : Nat) (z : Nat → Int) (w : World) (hl : len ≤ 1048576) (hr : Row w a len z) (hnil : a = none → len = 0) :
    Calls Yba.prog 4 #[.slice a len cap] w fun e w' => ∃ c, e = .returned (.slice c len len) ∧ c.isNone = a.isNone ∧ Below w.heap.size w w' ∧ Row w' c len z := by
  have hq := eql_nil a len cap
  cases ha : a with
  | none =>
    subst ha
    obtain rfl := hnil rfl
    clear hnil hr
    go_enter Yba.func4, Yba.ntmps4
    go_wp2_with fail
    go_ret
    exact ⟨none, rfl, rfl, Below.refl _ _, ⟨fun j hj => by omega⟩⟩
  | some x =>
    subst ha
    clear hnil
    have hz : ∀ j, j < len → 0 ≤ z j ∧ z j ≤ 255 := fun j hj => by obtain ⟨_, _, _, _, h0, h1⟩ := hr.cells j hj; exact ⟨h0, h1⟩
    have hm1 := run_make_row' (P := Yba.prog) 22 5 (.int .u8 0) 1 Yba.underlying22 Yba.info5 rfl .i64 .i64 len (by omega) (by omega)
    have HR := hide hr
    have HZ := hide hz
    clear hr hz
    go_enter Yba.func4, Yba.ntmps4
    go_upto_region 4 with (fail)
    rw [made_rep]
    refine wp_gen (fun W => W = w.alloc (.cells (List.replicate len (Value.int .u8 0)).toArray 5)) rfl ?_
    intro w1 hw1
    have hb1 : Below w.heap.size w w1 := by rw [hw1]; exact (Below.refl _ w).alloc (Nat.le_refl _) _
    have hp1 : w1.heap[w.heap.size]? = some (.cells (List.replicate len (Value.int .u8 0)).toArray 5 (0, 0)) := by rw [hw1]; exact Deep.blk_alloc_new _ _
    have HB1 := hide hb1
    have HP1 := hide hp1
    have HR1 := hide (Row.below HR.out hb1 (Nat.le_refl _))
    clear hb1 hp1 hw1
    obtain ⟨cs, hcs⟩ : ∃ cs : List Value, cs = (List.range len).map fun i => Value.int .u8 (z i) := ⟨_, rfl⟩
    have q1 : cs.length = Nat.min len len := by rw [hcs]; simp
    have q2 : 0 < cs.length → some (⟨w.heap.size, 0, none⟩ : Addr) = some ⟨w.heap.size, 0, none⟩ ∧ ∃ ad, some x = some ad ∧ ∀ j v, cs[j]? = some v → w1.cell? (ad.add j) = some v := by
      intro hpos
      refine ⟨rfl, _, rfl, fun j v hj => ?_⟩
      have hjl : j < len := by have := (List.getElem?_eq_some_iff.1 hj).1; rw [hcs] at this; simpa using this
      obtain ⟨b, off, e, hc, _⟩ := HR1.out.cells j hjl
      obtain rfl := Option.some.inj e
      rw [Go.WideShapes.add_plain, hc, ← hj, hcs, List.getElem?_map, List.getElem?_range hjl]; rfl
    have q3 : 0 + cs.length ≤ (List.replicate len (Value.int .u8 0)).length := by rw [hcs]; simp
    have q4 : ∀ v ∈ cs, v.oneCell' = true := by rw [hcs]; intro v hv; obtain ⟨i, _, rfl⟩ := List.mem_map.1 hv; rfl
    have Q1 := hide q1
    have Q2 := hide q2
    have Q3 := hide q3
    have Q4 := hide q4
    have HCS := hide hcs
    clear q1 q2 q3 q4 hcs
    go_upto_region 5 with (refine wpList_copy_splice rfl _ _ 22 22 rfl 5 Yba.underlying22 (by kernel_rfl) _ _ _ _ _ _ rfl rfl w.heap.size 0 _ 5 HP1.out cs Q1.out Q2.out Q3.out Q4.out w.heap.size w1 (Below.refl _ _) (Nat.le_refl _) ?_)
    intro w2 hp2 hb2
    have hr2 : Row w2 (some ⟨w.heap.size, 0, none⟩) len z := row_splice HZ.out (by rw [HCS.out] at hp2; exact hp2.out)
    have HR2 := hide hr2
    have HB2 := hide (HB1.out.trans hb2)
    clear hp2 hb2 hr2
    go_wp2_with fail
    go_ret
    exact ⟨_, rfl, rfl, HB2.out, HR2.out⟩

theorem conv_any (a : Option Addr) (n c : Nat) (z : Nat → Int) (w : World) (h : Row w a n z) : (convert 22 9 (.slice a n c)).run Yba.prog w = .ok (.string (strOfNums (nums n z))) w := by
  refine Lib.BytesIn.convert (P := Yba.prog) (xs := nums n z) ?_ (by simp [nums]) c 22 5 9 Yba.underlying22 Yba.underlying5 Yba.underlying9
  intro hn
  obtain ⟨b, off, e, _⟩ := h.cells 0 hn
  refine ⟨b, off, e, fun i hi => ?_⟩
  obtain ⟨b', off', e', hc, _⟩ := h.cells i hi
  rw [e] at e'
  injection e' with e'
  injection e' with e1 e2
  subst e1 e2
  rw [hc]
  simp [nums, hi]

/-- bytes.Equal. -/
theorem equal_any (a b : Option Addr) (n m ca cb : Nat) (z1 z2 : Nat → Int) (w : World) (ha : Row w a n z1) (hb : Row w b m z2) :
    Calls Yba.prog 9 #[.slice a n ca, .slice b m cb] w fun e w' => e = .returned (.bool (eqB n m z1 z2)) ∧ w' = w := by
  have h1 := conv_any a n ca z1 w ha
  have h2 := conv_any b m cb z2 w hb
  have he : ((strOfNums (nums n z1)).toList == (strOfNums (nums m z2)).toList) = eqB n m z1 z2 := by
    rw [Lib.strOfNums_toList, Lib.strOfNums_toList]
    exact bytes_eqB (fun j hj => by obtain ⟨_, _, _, _, h0, h1⟩ := ha.cells j hj; exact ⟨h0, h1⟩) (fun j hj => by obtain ⟨_, _, _, _, h0, h1⟩ := hb.cells j hj; exact ⟨h0, h1⟩)
  clear ha hb
  generalize strOfNums (nums n z1) = s1 at h1 he
  generalize strOfNums (nums m z2) = s2 at h2 he
  rw [← he]
  clear he
  go_enter Yba.func9, Yba.ntmps9
  go_wp2_with fail
  go_ret
  exact ⟨rfl, rfl⟩

theorem heap4 (w : World) (A B C D : Obj) : ((((w.alloc A).alloc B).alloc C).alloc D).heap[w.heap.size + 1 + 1 + 1]? = some D := by
  have h := Deep.blk_alloc_new (((w.alloc A).alloc B).alloc C) D
  rw [Deep.nblk_alloc, Deep.nblk_alloc, Deep.nblk_alloc] at h
  exact h
theorem size27 : (Yba.prog.info? 27).map (·.size) = some 2 := by kernel_rfl

set_option maxRecDepth 20000 in
set_option maxHeartbeats 1000000 in
/-- order.separator. -/
theorem sep_any (dup : Bool) (a1 a3 : Option Addr) (n1 c1 n3 c3 : Nat) (a2 a4 : Option Addr) (n2 c2 n4 c4 : Nat) (z1 z3 : Nat → Int) (w : World) (h1 : Row w a1 n1 z1) (h3 : Row w a3 n3 z3) :
    Calls Yba.prog 5 #[.agg #[.bool dup], .agg #[.slice a1 n1 c1, .slice a2 n2 c2], .agg #[.slice a3 n3 c3, .slice a4 n4 c4]] w fun e w' =>
      e = .returned (.agg #[.slice a3 n3 c3, if (dup && eqB n1 n3 z1 z3) = true then .slice a4 n4 c4 else .slice none 0 0]) ∧ Below w.heap.size w w' := by
  have H1 := hide h1
  have H3 := hide h3
  clear h1 h3
  obtain ⟨r, hr⟩ : ∃ r, r = eqB n1 n3 z1 z3 := ⟨_, rfl⟩
  have hr' : eqB n1 n3 z1 z3 = r := hr.symm
  have HV := hide hr'
  rw [← hr]
  clear hr hr'
  have hb : Below w.heap.size w ((((w.alloc (Obj.cells #[Value.bool dup] 25)).alloc (Obj.cells #[Value.slice a1 n1 c1, Value.slice a2 n2 c2] 27)).alloc (Obj.cells #[Value.slice a3 n3 c3, Value.slice a4 n4 c4] 27)).alloc (Obj.cells #[Value.slice none 0 0, Value.slice none 0 0] 27)) :=
    ((((Below.refl _ w).alloc (Nat.le_refl _) _).alloc (by simp) _).alloc (by simp; omega) _).alloc (by simp; omega) _
  have HB := hide hb
  clear hb
  cases dup <;> cases r <;>
  (go_enter Yba.func5, Yba.ntmps5
   go_wp2_with (go_at_call 9; go_must (refine (equal_any _ _ n1 n3 _ _ z1 z3 _ (Row.below H1.out HB.out (Nat.le_refl _)) (Row.below H3.out HB.out (Nat.le_refl _))).mono ?_); rintro e w' ⟨rfl, rfl⟩; rw [HV.out])
   refine bodyPost_ret (results_cell_row rfl _ _ (w.heap.size + 1 + 1 + 1) 27 _ _ _ rfl (heap4 _ _ _ _ _) Yba.underlying27 rfl size27) rfl ⟨rfl, ?_⟩
   exact ((((Below.refl _ w).alloc (Nat.le_refl _) _).alloc (by simp) _).alloc (by simp; omega) _).alloc (by simp; omega) _)
end Go.Proofs.Ybulkdpcc
