/-
  Seat b5799a: rows that came in, the plain search, the state of memory while the document is built; the two callees' contracts. By an AI agent.
-/
import Derived.Test.YbulkdpboRows
import Derived.WalkKit
import Derived.WalkSpells
import Derived.WalkLawsBesides
import Derived.BigQuiet
import Derived.Deep.QuietTactic
import Derived.Deep.LoopGhost
import Derived.Deep.OwnRows
import Derived.LaidEqlPtr
namespace Go.Proofs.Ybulkdpbo
open Go.RowKit

theorem hide {p : Prop} (h : p) : Hid p := h
theorem unhide {p : Prop} (h : Hid p) : p := h

/-- A slice of bytes that came in, below block B. -/
def Row (w : World) (B : Nat) (a : Option Addr) (len : Nat) (z : Nat → Int) : Prop :=
  ∀ j, j < len → ∃ b off, a = some ⟨b, off, none⟩ ∧ b < B ∧ w.cell? ⟨b, off + j, none⟩ = some (.int .u8 (z j)) ∧ 0 ≤ z j ∧ z j ≤ 255

theorem Row.below {w w' : World} {B len : Nat} {a : Option Addr} {z : Nat → Int} (h : Row w B a len z) (hb : Below B w w') : Row w' B a len z := by
  intro j hj
  obtain ⟨b, off, e, hB, hc, h0, h1⟩ := h j hj
  exact ⟨b, off, e, hB, (hb.cell (p := ⟨b, off + j, none⟩) hB).trans hc, h0, h1⟩

def lvl (z : Nat → Int) (len i : Nat) : Int := if i < len then z i % 7 else 0
theorem lvl_bd (z : Nat → Int) (len i : Nat) : 0 ≤ lvl z len i ∧ lvl z len i ≤ 6 := by unfold lvl; split <;> omega

theorem ret_int {k : IntKind} {a b : Int} (h : a = b) : Ending.returned (.int k a) = .returned (.int k b) := by rw [h]

set_option maxHeartbeats 400000 in
theorem level_any (a : Option Addr) (len cap : Nat) (z : Nat → Int) (i B : Nat) (w : World) (hrow : Row w B a len z) (_hl : len ≤ 9223372036854775807) :
    Calls Yba.prog 4 #[.slice a len cap, .int .i64 (i : Int)] w fun e w' => e = .returned (.int .u8 (lvl z len i)) ∧ w' = w := by
  by_cases hi : i < len
  · obtain ⟨b, off, rfl, hB, hc, h0, h1⟩ := hrow i hi
    have hiI : (i : Int) < (len : Int) := by omega
    clear hrow
    go_enter Yba.func4, Yba.ntmps4
    go_wp2
    go_ret
    exact ⟨ret_int (by simp [lvl, hi]), rfl⟩
  · have hiI : ¬ (i : Int) < (len : Int) := by omega
    clear hrow
    go_enter Yba.func4, Yba.ntmps4
    go_wp2
    go_ret
    exact ⟨ret_int (by simp [lvl, hi]), rfl⟩

/-- e is the first index that p holds of, or len. -/
def IsEnd (p : Nat → Bool) (len e : Nat) : Prop := (∀ j, j < e → p j = false) ∧ ((e < len ∧ p e = true) ∨ e = len)

theorem IsEnd.unique {p : Nat → Bool} {len e f : Nat} (h : IsEnd p len e) (k : IsEnd p len f) : e = f := by
  rcases Nat.lt_trichotomy e f with hlt | heq | hgt
  · have := k.1 e hlt
    rcases h.2 with ⟨_, hp⟩ | he
    · rw [this] at hp; cases hp
    · rcases k.2 with ⟨hf, _⟩ | hf <;> omega
  · exact heq
  · have := h.1 f hgt
    rcases k.2 with ⟨_, hp⟩ | hf
    · rw [this] at hp; cases hp
    · rcases h.2 with ⟨he, _⟩ | he <;> omega

def headB (z lv : Nat → Int) (i : Nat) : Bool := (z i % 12 == 1) && (lv i == 2)

/-- What 'headBlocks' answers. -/
def hbV (tb len e : Nat) : Value := if e = 0 then .slice none 0 0 else .slice (some ⟨tb, if len = 1 then 0 else 1, none⟩) (e - 1) (len - 1)

set_option maxRecDepth 20000 in
set_option maxHeartbeats 1000000 in
theorem headBlocks_any (d r tb len : Nat) (nb : Nat → Nat) (z lv : Nat → Int) (w : World) (hl0 : 0 < len) (hl : len ≤ 1048576)
    (hd : w.cell? ⟨d, 0, none⟩ = some (.pointer (some ⟨r, 0, none⟩))) (hr : w.cell? ⟨r, 5, none⟩ = some (.slice (some ⟨tb, 0, none⟩) len len))
    (ht : ∀ i, i < len → w.cell? ⟨tb, i, none⟩ = some (.pointer (some ⟨nb i, 0, none⟩))) (hk : ∀ i, i < len → w.cell? ⟨nb i, 0, none⟩ = some (.int .u8 (z i % 12))) (hv : ∀ i, i < len → w.cell? ⟨nb i, 1, none⟩ = some (.int .u8 (lv i))) :
    Calls Yba.prog 5 #[.pointer (some ⟨d, 0, none⟩)] w fun e w' => ∃ f, IsEnd (headB z lv) len f ∧ e = .returned (hbV tb len f) ∧ w' = w := by
  have HT := hide ht
  have HK := hide hk
  have HV := hide hv
  clear ht hk hv
  go_enter Yba.func5, Yba.ntmps5
  go_wp2_with fail
  go_loopw [4, 18] (fun t4 t wr => ∃ k : Nat, k ≤ len ∧ t = .int .i64 k ∧ t4 = .int .i64 (len : Int) ∧ wr = w ∧ Hid (∀ j, j < k → headB z lv j = false)) (fun _ t _ => len - (intOf t).toNat)
  case atStart => exact ⟨0, Nat.zero_le _, rfl, rfl, rfl, fun j hj => by omega⟩
  case round =>
    obtain ⟨k, hk, rfl, rfl, rfl, HN⟩ := hrel
    by_cases hkl : k < len
    · have e1 := HT.out k hkl
      have e2 := HK.out k hkl
      have e3 := HV.out k hkl
      have hkI : (k : Int) < (len : Int) := by omega
      by_cases hp : headB z lv k = true
      · have HE : Hid (IsEnd (headB z lv) len k) := ⟨HN.out, .inl ⟨hkl, hp⟩⟩
        simp only [headB, Bool.and_eq_true] at hp
        obtain ⟨b1, b2⟩ := hp
        clear HN
        by_cases hk0 : k = 0
        · subst hk0
          go_wp2_with fail
          go_ret
          exact ⟨0, HE.out, rfl, rfl⟩
        · have hk0b : ((k : Int) == 0) = false := by simp; omega
          have hk1 : (1 : Int) ≤ (k : Int) := by omega
          go_wp2_with fail
          go_ret
          refine ⟨k, HE.out, ?_, rfl⟩
          show Ending.returned (.slice (some ⟨tb, 1, none⟩) (k - 1) (len - 1)) = _
          rw [hbV, if_neg hk0, if_neg (by omega)]
      · have hp' : headB z lv k = false := by simpa using hp
        have HN2 : Hid (∀ j, j < k + 1 → headB z lv j = false) := fun j hj => by
          rcases Nat.lt_or_ge j k with h | h
          · exact HN.out j h
          · obtain rfl : j = k := by omega
            exact hp'
        clear HN hp
        cases b1 : (z k % 12 == 1) with
        | false =>
          clear hp'
          go_wp2_with fail
          go_roundw
          case rel => exact ⟨k + 1, by omega, by go_num, rfl, trivial, HN2⟩
          case measure => simp [intOf]; omega
        | true =>
          have b2 : (lv k == 2) = false := by
            simp only [headB, b1, Bool.true_and] at hp'
            exact hp'
          clear hp'
          go_wp2_with fail
          go_roundw
          case rel => exact ⟨k + 1, by omega, by go_num, rfl, trivial, HN2⟩
          case measure => simp [intOf]; omega
    · have HE : Hid (IsEnd (headB z lv) len len) := ⟨fun j hj => HN.out j (by omega), .inr rfl⟩
      have hl0b : ((len : Int) == 0) = false := by simp; omega
      have hl1 : (1 : Int) ≤ (len : Int) := by omega
      by_cases h1 : len = 1
      · subst h1
        go_wp2_with fail
        go_ret
        exact ⟨1, HE.out, rfl, rfl⟩
      · have hl2 : (1 : Int) < (len : Int) := by omega
        go_wp2_with fail
        go_ret
        refine ⟨len, HE.out, ?_, rfl⟩
        show Ending.returned (.slice (some ⟨tb, 1, none⟩) (len - 1) (len - 1)) = _
        rw [hbV, if_neg (by omega), if_neg h1]

/-- A block's cells. -/
abbrev blk (k l : Int) (i : Nat) : Array Value := #[.int .u8 k, .int .u8 l, .bool false, .bool false, .int .u8 0, .slice none 0 0, .int .i64 ((i : Int) + 1), .int .i64 (i : Int), .int .i64 0, .int .i64 0]
def blkF (k l : Int) (i q : Nat) : Value := (blk k l i).getD q undef
theorem blk_get (k l : Int) (i q : Nat) (hq : q < 10) : (blk k l i)[q]? = some (blkF k l i q) := by
  have : (blk k l i).size = 10 := rfl
  simp only [blkF, Array.getD, this, hq, dif_pos]
  exact Array.getElem?_eq_getElem (by omega)

/-- k blocks stand, entered into the table tb. -/
structure Bs (w0 w : World) (tb len k : Nat) (nb : Nat → Nat) (z lv : Nat → Int) : Prop where
  bel : Below w0.heap.size w0 w
  lo : w0.heap.size ≤ tb
  row : ∃ f, w.rowIs tb 24 len f ∧ ∀ i, i < k → f i = .pointer (some ⟨nb i, 0, none⟩)
  nd : ∀ i, i < k → w.rowIs (nb i) 30 10 (blkF (z i % 12) (lv i) i)
  nbB : ∀ i, i < k → tb < nb i

theorem rowIs_grown {w w' : World} {row : Option Nat} (hg : w.grownBy w' row) {b : Nat} {t : TypeId} {n : Nat} {f : Nat → Value} (h : w.rowIs b t n f) (hne : some b ≠ row) : w'.rowIs b t n f :=
  h.of_block (hg.block b h.lt hne)
theorem grown_setCell (w : World) (b i : Nat) (v : Value) : w.grownBy (w.setCell ⟨b, i, none⟩ v) (some b) :=
  ⟨rfl, rfl, rfl, by simp [World.setCell], fun k _ hk => Deep.blk_setCell_other _ _ _ _ (fun e => hk (by simp [e]))⟩

section
variable {w0 w w' : World} {tb len k : Nat} {nb : Nat → Nat} {z lv : Nat → Int}
theorem Bs.grown (s : Bs w0 w tb len k nb z lv) (hg : w.grownBy w' none) : Bs w0 w' tb len k nb z lv where
  bel := s.bel.grown hg s.bel.size (by simp)
  lo := s.lo
  row := by obtain ⟨f, h1, h2⟩ := s.row; exact ⟨f, rowIs_grown hg h1 (by simp), h2⟩
  nd := fun i hi => rowIs_grown hg (s.nd i hi) (by simp)
  nbB := s.nbB
theorem Bs.alloc (s : Bs w0 w tb len k nb z lv) (o : Obj) : Bs w0 (w.alloc o) tb len k nb z lv := s.grown (World.grownBy_alloc w o none)
theorem Bs.drewN (s : Bs w0 w tb len k nb z lv) (m : Nat) : Bs w0 (w.drewN m) tb len k nb z lv := s.grown ⟨rfl, rfl, rfl, Nat.le_refl _, fun _ _ _ => rfl⟩
theorem Bs.drew (s : Bs w0 w tb len k nb z lv) : Bs w0 w.drew tb len k nb z lv := s.grown ⟨rfl, rfl, rfl, Nat.le_refl _, fun _ _ _ => rfl⟩
theorem Bs.below (s : Bs w0 w tb len k nb z lv) (h : Below w.heap.size w w') : Bs w0 w' tb len k nb z lv := s.grown ⟨h.os, h.tape, h.output, h.size, fun k hk _ => h.block k hk⟩
theorem Bs.lt (s : Bs w0 w tb len k nb z lv) : tb < w.heap.size := by obtain ⟨f, h1, _⟩ := s.row; exact h1.lt
theorem Bs.cellT (s : Bs w0 w tb len k nb z lv) (i : Nat) (hi : i < k) (hl : i < len) : w.cell? ⟨tb, i, none⟩ = some (.pointer (some ⟨nb i, 0, none⟩)) := by
  obtain ⟨f, h1, h2⟩ := s.row
  rw [h1.cell hl, h2 i hi]
theorem Bs.someT (s : Bs w0 w tb len k nb z lv) (i : Nat) (hl : i < len) : ∃ v, w.cell? ⟨tb, i, none⟩ = some v := by
  obtain ⟨f, h1, h2⟩ := s.row
  exact ⟨_, h1.cell hl⟩
theorem Bs.freeT (s : Bs w0 w tb len k nb z lv) (i : Nat) : w.frozen? ⟨tb, i, none⟩ = false := by
  obtain ⟨f, h1, h2⟩ := s.row
  exact h1.frozen i
theorem Bs.cellB (s : Bs w0 w tb len k nb z lv) (i : Nat) (hi : i < k) (q : Nat) (hq : q < 10) : w.cell? ⟨nb i, q, none⟩ = some (blkF (z i % 12) (lv i) i q) := (s.nd i hi).cell hq

/-- A new block, entered. -/
theorem Bs.next (s : Bs w0 w tb len k nb z lv) : Bs w0 ((w.alloc (.cells (blk (z k % 12) (lv k) k) 30)).setCell ⟨tb, k, none⟩ (.pointer (some ⟨w.heap.size, 0, none⟩))) tb len (k + 1) (fun i => if i = k then w.heap.size else nb i) z lv := by
  have s1 := s.alloc (.cells (blk (z k % 12) (lv k) k) 30)
  have hg := grown_setCell (w.alloc (.cells (blk (z k % 12) (lv k) k) 30)) tb k (.pointer (some ⟨w.heap.size, 0, none⟩))
  have hlt := s.lt
  have hlo := s.lo
  exact {
    bel := s1.bel.grown hg s1.bel.size (by intro j hj; simp at hj; omega)
    lo := s.lo
    row := by
      obtain ⟨f, h1, h2⟩ := s1.row
      refine ⟨_, h1.set k (.pointer (some ⟨w.heap.size, 0, none⟩)), fun i hi => ?_⟩
      by_cases e : i = k
      · simp [e]
      · simp only [if_neg e]; exact h2 i (by omega)
    nd := fun i hi => by
      by_cases e : i = k
      · subst e
        simp only [if_pos]
        have := World.rowIs_alloc w (blk (z i % 12) (lv i) i) 30 (blkF (z i % 12) (lv i) i) (fun q hq => blk_get _ _ _ q hq)
        exact rowIs_grown hg this (by simp; omega)
      · simp only [if_neg e]
        exact rowIs_grown hg (s1.nd i (by omega)) (by have := s.nbB i (by omega); simp; omega)
    nbB := fun i hi => by
      by_cases e : i = k
      · simp only [if_pos e]; omega
      · simp only [if_neg e]; exact s.nbB i (by omega) }
end
end Go.Proofs.Ybulkdpbo
