/-
  Seat b5800a: rows of bytes; the law's small functions by their contracts. By an AI agent.
-/
import Derived.Test.YbulkdpccRows
import Derived.WalkKit
import Derived.WalkSpells
import Derived.WalkLawsBesides
import Derived.BigQuiet
import Derived.Deep.QuietTactic
import Derived.Deep.OwnRows
import Derived.Deep.CutRange
import Derived.LaidEql
import Derived.Laws.CopyOwn
import Derived.Below
import Derived.Lib.Bytes
import Derived.Lib.SliceRun
import Derived.Shelf.Bytes.SlEqualAll
namespace Go.Proofs.Ybulkdpcc
open Go.RowKit

theorem hide {p : Prop} (h : p) : Hid p := h
theorem unhide {p : Prop} (h : Hid p) : p := h
theorem wp_gen {P : Program} {c : Code} {Q : Exit → Act → World → Prop} {a : Act} {W : World} (R : World → Prop) (h : R W) (h2 : ∀ w, R w → Code.wp P c Q a w) : Code.wp P c Q a W := h2 W h
theorem below_drewN {B : Nat} {a w : World} (h : Below B a w) (m : Nat) : Below B a (w.drewN m) := ⟨h.os, h.tape, h.output, h.size, h.block⟩

/-- The first len cells behind address a hold the bytes z; nil has no cell. -/
structure Row (w : World) (a : Option Addr) (len : Nat) (z : Nat → Int) : Prop where
  cells : ∀ j, j < len → ∃ b off, a = some ⟨b, off, none⟩ ∧ w.cell? ⟨b, off + j, none⟩ = some (.int .u8 (z j)) ∧ 0 ≤ z j ∧ z j ≤ 255

theorem Row.below {B : Nat} {w w' : World} {a : Option Addr} {len : Nat} {z : Nat → Int} (h : Row w a len z) (hb : Below B w w') (hB : w.heap.size ≤ B) : Row w' a len z := by
  constructor
  intro j hj
  obtain ⟨b, off, e, hc, h0, h1⟩ := h.cells j hj
  exact ⟨b, off, e, (World.cell?_of_block (hb.block _ (Nat.lt_of_lt_of_le (World.block_lt_of_cell? w _ hc) hB))).trans hc, h0, h1⟩
theorem Row.drewN {w : World} {a : Option Addr} {len : Nat} {z : Nat → Int} (h : Row w a len z) (m : Nat) : Row (w.drewN m) a len z := ⟨fun j hj => h.cells j hj⟩

/-- The numbers of a row. -/
def nums (len : Nat) (z : Nat → Int) : List Int := (List.range len).map z
def eqB (n m : Nat) (z1 z2 : Nat → Int) : Bool := nums n z1 == nums m z2

theorem eqB_len {n m : Nat} {z1 z2 : Nat → Int} (h : n ≠ m) : eqB n m z1 z2 = false := by
  unfold eqB nums
  rw [beq_eq_false_iff_ne]
  intro e
  apply h
  simpa using congrArg List.length e
theorem eqB_at {n : Nat} {z1 z2 : Nat → Int} {k : Nat} (hk : k < n) (h : z1 k ≠ z2 k) : eqB n n z1 z2 = false := by
  unfold eqB nums
  rw [beq_eq_false_iff_ne]
  intro e
  apply h
  have := congrArg (fun l => l[k]?) e
  simpa [List.getElem?_range hk] using this
theorem eqB_all {n : Nat} {z1 z2 : Nat → Int} (h : ∀ j, j < n → z1 j = z2 j) : eqB n n z1 z2 = true := by
  unfold eqB nums
  rw [beq_iff_eq]
  exact List.map_congr_left fun j hj => h j (List.mem_range.1 hj)

theorem of_bytes (l : List Int) (h : ∀ x ∈ l, 0 ≤ x ∧ x ≤ 255) : (Lib.bytesOf l).map (fun u => (u.toNat : Int)) = l := by
  unfold Lib.bytesOf
  rw [List.map_map]
  conv => rhs; rw [← List.map_id l]
  refine List.map_congr_left fun x hx => ?_
  have := h x hx
  simp [Function.comp]
  omega
theorem bytes_eqB {n m : Nat} {z1 z2 : Nat → Int} (h1 : ∀ j, j < n → 0 ≤ z1 j ∧ z1 j ≤ 255) (h2 : ∀ j, j < m → 0 ≤ z2 j ∧ z2 j ≤ 255) : (Lib.bytesOf (nums n z1) == Lib.bytesOf (nums m z2)) = eqB n m z1 z2 := by
  unfold eqB
  rw [Bool.eq_iff_iff, beq_iff_eq, beq_iff_eq]
  constructor
  · intro e
    have e2 := congrArg (List.map fun u : UInt8 => (u.toNat : Int)) e
    rw [of_bytes, of_bytes] at e2
    · exact e2
    · intro x hx; obtain ⟨j, hj, rfl⟩ := List.mem_map.1 hx; exact h2 j (List.mem_range.1 hj)
    · intro x hx; obtain ⟨j, hj, rfl⟩ := List.mem_map.1 hx; exact h1 j (List.mem_range.1 hj)
  · intro e; rw [e]

theorem Yba.info5 : (Yba.prog.info? 5).map (fun i => (i.zero, i.size, i.bytes)) = some (some (.int .u8 0), 1, 1) := by kernel_rfl

theorem eql_nil (a : Option Addr) (n c : Nat) (W : World) : (binOp .eql 22 (.slice a n c) (.slice none 0 0)).run Yba.prog W = .ok (.bool a.isNone) W := Lib.run_eql_slice_nil W 22 5 a n c 0 0 Yba.underlying22

/-- zzs5800beq. -/
theorem eq_any (a b : Option Addr) (n m ca cb : Nat) (z1 z2 : Nat → Int) (w : World) (hn : n ≤ 1048576) (hm : m ≤ 1048576) (ha : Row w a n z1) (hb : Row w b m z2) :
    Calls Yba.prog 8 #[.slice a n ca, .slice b m cb] w fun e w' => e = .returned (.bool (eqB n m z1 z2)) ∧ ∃ k, w' = w.drewN k := by
  have HA := hide ha
  have HB := hide hb
  clear ha hb
  by_cases hnm : n = m
  · subst hnm
    obtain ⟨r, hr⟩ : ∃ r, r = eqB n n z1 z2 := ⟨_, rfl⟩
    rw [← hr]
    have HV := hide hr
    clear hr
    go_enter Yba.func8, Yba.ntmps8
    go_wp2_with fail
    go_loopw [5] (fun t wr => ∃ k : Nat, k ≤ n ∧ t = .int .i64 k ∧ Hid (∀ j, j < k → z1 j = z2 j) ∧ ∃ m, wr = w.drewN m) (fun t _ => n - (intOf t).toNat)
    case atStart => exact ⟨0, Nat.zero_le _, rfl, hide (fun j hj => by omega), 0, rfl⟩
    case round =>
      obtain ⟨k, hk, rfl, hall, m, rfl⟩ := hrel
      by_cases hkl : k < n
      · obtain ⟨b1, o1, rfl, h1, _, _⟩ := HA.out.cells k hkl
        obtain ⟨b2, o2, rfl, h2, _, _⟩ := HB.out.cells k hkl
        have hkI : (k : Int) < (n : Int) := by omega
        by_cases hz : z1 k = z2 k
        · go_wp2_with fail
          go_quiet (fail)
          go_wp2_with fail
          go_roundw
          case rel => exact ⟨k + 1, by omega, by go_num, hide (fun j hj => by by_cases e : j = k; · rw [e]; exact hz
                                                                              · exact hall.out j (by omega)), _, rfl⟩
          case measure => simp [intOf]; omega
        · have HZ := hide (HV.out.trans (eqB_at hkl hz))
          go_wp2_with fail
          go_quiet (fail)
          go_wp2_with fail
          go_ret
          exact ⟨by rw [HZ.out]; rfl, _, World.drewN_drewN _ _ _⟩
      · have HZ := hide (HV.out.trans (eqB_all (fun j hj => hall.out j (by omega))))
        go_wp2_with fail
        go_ret
        exact ⟨by rw [HZ.out]; rfl, m, rfl⟩
  · have hnI : ¬ (n : Int) = (m : Int) := by omega
    rw [eqB_len hnm]
    go_enter Yba.func8, Yba.ntmps8
    go_wp2_with fail
    go_ret
    exact ⟨rfl, 0, rfl⟩

/-- zzs5800bkeep. -/
theorem keep_any (a c : Option Addr) (n ca cc : Nat) (z : Nat → Int) (w : World) (hn : n ≤ 1048576) (ha : Row w a n z) (hc : Row w c n z) (hnil : c.isNone = a.isNone) :
    Calls Yba.prog 6 #[.slice a n ca, .slice c n cc] w fun e w' => e = .returned (.bool true) ∧ ∃ k, w' = w.drewN k := by
  have hq1 := eql_nil a n ca
  have hq2 := eql_nil c n cc
  rw [hnil] at hq2
  have HA := hide ha
  have HC := hide hc
  clear ha hc hnil
  generalize a.isNone = x at hq1 hq2
  have hx : (x == x) = true := beq_self_eq_true x
  have he : eqB n n z z = true := eqB_all (fun _ _ => rfl)
  have HE := hide he
  clear he
  cases x <;>
  (go_enter Yba.func6, Yba.ntmps6
   go_wp2_with (go_at_call 8; refine (eq_any _ _ n n _ _ z z _ hn hn HA.out HC.out).mono ?_; rintro e w' ⟨rfl, k, rfl⟩; rw [HE.out])
   go_ret
   exact ⟨rfl, _, rfl⟩)

theorem run_neq_ptr_same (w : World) {tp te : TypeId} {j : TypeInfo} (a : Option Addr) (hp : Yba.prog.underlying tp = some (.pointer te)) (hte : Yba.prog.info? te = some j) : (binOp .neq tp (.pointer a) (.pointer a)).run Yba.prog w = .ok (.bool false) w := by
  have h : ∀ d : Nat, (Op.equalIn (d + 1) tp (.pointer a) (.pointer a)).run Yba.prog w = .ok true w := fun d => by
    cases a <;> simp [Op.equalIn, run_underlying hp, sizeOf, typeInfo, hte, run_sameAddr_same]
  simp only [binOp]
  simp [Op.equal, Op.maxDepth, h 9999]
theorem neq31 (x : Option Addr) (V : World) : (binOp .neq 31 (.pointer x) (.pointer x)).run Yba.prog V = .ok (.bool false) V := by
  obtain ⟨j, hj, _⟩ := Option.map_eq_some_iff.1 Yba.info5
  exact run_neq_ptr_same V x Yba.underlying31 hj

/-- zzs5800bsame: of a slice and itself. -/
theorem same_any (a : Option Addr) (n ca : Nat) (z : Nat → Int) (w : World) (hn : n ≤ 1048576) (ha : Row w a n z) :
    Calls Yba.prog 7 #[.slice a n ca, .slice a n ca] w fun e w' => e = .returned (.bool true) ∧ ∃ k, w' = w.drewN k := by
  have hq1 := eql_nil a n ca
  generalize a.isNone = x at hq1
  by_cases h0 : 0 < n
  · obtain ⟨b, off, rfl, _, _, _⟩ := ha.cells 0 h0
    have hqp := neq31 (some ⟨b, off, none⟩)
    have h0I : (0 : Int) < (n : Int) := by omega
    clear ha
    cases x <;>
    (go_enter Yba.func7, Yba.ntmps7
     go_wp2_with fail
     go_quiet (fail)
     go_wp2_with fail
     go_ret
     exact ⟨rfl, _, rfl⟩)
  · have h0I : ¬ (0 : Int) < (n : Int) := by omega
    clear ha
    cases x <;>
    (go_enter Yba.func7, Yba.ntmps7
     go_wp2_with fail
     go_quiet (fail)
     go_wp2_with fail
     go_ret
     exact ⟨rfl, _, rfl⟩)
end Go.Proofs.Ybulkdpcc
