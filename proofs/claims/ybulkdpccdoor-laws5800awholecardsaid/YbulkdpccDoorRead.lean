/-
  Seat b5800aD: (*zzs5800astore).ReadAt by its contract. By an AI agent.
-/
import Derived.Test.YbulkdpccDoorBase
namespace Go.Proofs.YbulkdpccDoor
open Go.RowKit

/-- Blocks x and y alone have turned. -/
structure Only (x y : Nat) (w w' : World) : Prop where
  os : w'.os = w.os
  tape : w'.tape = w.tape
  output : w'.output = w.output
  size : w'.heap.size = w.heap.size
  block : ∀ k, k ≠ x → k ≠ y → w'.heap[k]? = w.heap[k]?

theorem Only.refl (x y : Nat) (w : World) : Only x y w w := ⟨rfl, rfl, rfl, rfl, fun _ _ _ => rfl⟩
theorem Only.trans {x y : Nat} {a b c : World} (h : Only x y a b) (k : Only x y b c) : Only x y a c :=
  ⟨k.os.trans h.os, k.tape.trans h.tape, k.output.trans h.output, k.size.trans h.size, fun j h1 h2 => (k.block j h1 h2).trans (h.block j h1 h2)⟩
theorem Only.setCell (x y i : Nat) (v : Value) (w : World) : Only x y w (w.setCell ⟨x, i, none⟩ v) :=
  ⟨rfl, rfl, rfl, by simp [World.setCell], fun k h1 _ => Deep.blk_setCell_other _ _ _ _ h1⟩
theorem Only.setRow (x y : Nat) (cs : Array Value) (w : World) : Only x y w (w.setRow y cs) :=
  ⟨rfl, rfl, rfl, by simp [World.setRow], fun k _ h2 => setRow_other w y k cs h2⟩
theorem Only.drewN {x y : Nat} {a b : World} (h : Only x y a b) (m : Nat) : Only x y a (b.drewN m) := ⟨h.os, h.tape, h.output, h.size, h.block⟩
theorem Only.drew {x y : Nat} {a b : World} (h : Only x y a b) : Only x y a b.drew := ⟨h.os, h.tape, h.output, h.size, h.block⟩
theorem Only.cell {x y : Nat} {w w' : World} (h : Only x y w w') {p : Addr} (h1 : p.block ≠ x) (h2 : p.block ≠ y) : w'.cell? p = w.cell? p := World.cell?_of_block (h.block _ h1 h2)
theorem Only.row {x y : Nat} {w w' : World} (h : Only x y w w') {a : Option Addr} {len : Nat} {z : Nat → Int} (hr : Row w a len z) (hne : ∀ b off, a = some ⟨b, off, none⟩ → 0 < len → b ≠ x ∧ b ≠ y) : Row w' a len z := by
  intro j hj
  obtain ⟨b, off, e, hc, h0, h1⟩ := hr j hj
  obtain ⟨n1, n2⟩ := hne b off e (by omega)
  exact ⟨b, off, e, (h.cell (p := ⟨b, off + j, none⟩) n1 n2).trans hc, h0, h1⟩

/-- The store's six cells. -/
def stF (dv : Value) (mode : Int) (fv : Value) (calls off plen : Int) (i : Nat) : Value :=
  if i = 0 then dv else if i = 1 then .int .u8 mode else if i = 2 then fv else if i = 3 then .int .i64 calls else if i = 4 then .int .i64 off else .int .i64 plen

/-- What ReadAt answers besides the number. -/
def errOf (mode : Int) (fv ev : Value) (short : Bool) : Value :=
  if (mode % 4 == 0) = true then (if short = true then ev else .nilIface) else if (mode % 4 == 1) = true then .nilIface else if (mode % 4 == 2) = true then fv else ev

def gotF (z : Nat → Int) (m : Nat) (i : Nat) : Value := if i < m then .int .u8 (z i) else .int .u8 0

theorem Ybad.info5 : (Ybad.prog.info? 5).map (fun i => (i.zero, i.size, i.bytes)) = some (some (.int .u8 0), 1, 1) := by kernel_rfl

theorem stF_set3 (dv : Value) (mode : Int) (fv : Value) (i : Nat) : (if i = 3 then Value.int .i64 1 else stF dv mode fv 0 0 0 i) = stF dv mode fv 1 0 0 i := by
  by_cases e : i = 3 <;> simp [stF, e]
theorem stF_set4 (dv : Value) (mode : Int) (fv : Value) (i : Nat) : (if i = 4 then Value.int .i64 0 else stF dv mode fv 1 0 0 i) = stF dv mode fv 1 0 0 i := by
  by_cases e : i = 4 <;> simp [stF, e]
theorem stF_set5 (dv : Value) (mode : Int) (fv : Value) (size : Int) (i : Nat) (hi : i < 6) : (if i = 5 then Value.int .i64 size else stF dv mode fv 1 0 0 i) = stF dv mode fv 1 0 size i := by
  match i, hi with
  | 0, _ => rfl
  | 1, _ => rfl
  | 2, _ => rfl
  | 3, _ => rfl
  | 4, _ => rfl
  | 5, _ => rfl

/-- What 'copy' leaves of the new row. -/
theorem got_row {w : World} {pb size m : Nat} {z : Nat → Int} (hm : m ≤ size) (cs : List Value) (hcs : cs = (List.range m).map fun i => Value.int .u8 (z i)) (h : w.heap[pb]? = some (.cells (List.replicate size (Value.int .u8 0)).toArray 5 (0, 0))) :
    (w.setRow pb (cs ++ List.replicate (size - m) (Value.int .u8 0)).toArray).rowIs pb 5 size (gotF z m) := by
  have hl : cs.length = m := by rw [hcs]; simp
  refine ⟨_, setRow_heap w pb _ _ 5 _ h, ?_, fun i hi => ?_⟩
  · simp [hl]; omega
  · simp only [List.getElem?_toArray]
    by_cases him : i < m
    · rw [List.getElem?_append_left (by omega), hcs, List.getElem?_map, List.getElem?_range him]
      simp [gotF, him]
    · rw [List.getElem?_append_right (by omega), List.getElem?_replicate, if_pos (by omega)]
      simp [gotF, him]

set_option maxRecDepth 20000 in
set_option maxHeartbeats 2000000 in
theorem readAt_any (sb pb size len cap : Nat) (a : Option Addr) (mode : Int) (fv ev : Value) (z : Nat → Int) (w : World) (m0 : 0 ≤ mode) (m1 : mode ≤ 255) (hsp : sb ≠ pb) (hs1 : size ≤ 1048576) (hl1 : len ≤ 1048576)
    (hs : w.rowIs sb 28 6 (stF (.slice a len cap) mode fv 0 0 0)) (hp : w.heap[pb]? = some (.cells (List.replicate size (Value.int .u8 0)).toArray 5 (0, 0))) (hr : Row w a len z) (hlc : len ≤ cap) (hne : ∀ b off, a = some ⟨b, off, none⟩ → 0 < len → b ≠ sb ∧ b ≠ pb)
    (hev : w.cell? ⟨0, 0, none⟩ = some ev) (h0s : 0 ≠ sb) (h0p : 0 ≠ pb) :
    Calls Ybad.prog 22 #[.pointer (some ⟨sb, 0, none⟩), .slice (some ⟨pb, 0, none⟩) size size, .int .i64 0] w fun e w' =>
      e = .returned (.tuple #[.int .i64 (min size len : Nat), errOf mode fv ev (decide (min size len < size))]) ∧ Only sb pb w w' ∧
      w'.rowIs sb 28 6 (stF (.slice a len cap) mode fv 1 0 size) ∧ w'.rowIs pb 5 size (gotF z (min size len)) := by
  obtain ⟨er, her⟩ : ∃ er, er = errOf mode fv ev (decide (min size len < size)) := ⟨_, rfl⟩
  rw [← her]
  have HER := hide her
  clear her
  have c3 : w.cell? ⟨sb, 3, none⟩ = some (.int .i64 0) := hs.cell (by omega)
  have f3 := hs.frozen 3
  have HS := hide hs
  have HP := hide hp
  have HR := hide hr
  have HNE := hide hne
  have HEV := hide hev
  clear hs hp hr hne hev
  go_enter Ybad.func22, Ybad.ntmps22
  go_upto_region 2 with (fail)
  refine wp_gen (fun W => Only sb pb w W ∧ W.rowIs sb 28 6 (stF (.slice a len cap) mode fv 1 0 0) ∧ W.heap[pb]? = some (.cells (List.replicate size (Value.int .u8 0)).toArray 5 (0, 0))) ⟨Only.setCell sb pb 3 _ w, (HS.out.set 3 (.int .i64 1)).congr (fun i _ => stF_set3 _ _ _ i), by rw [Deep.blk_setCell_other _ _ _ _ (by exact hsp.symm)]; exact HP.out⟩ ?_
  clear HS HP c3 f3
  intro w1 hR
  obtain ⟨h1, h2, h3⟩ := hR
  have c4 : w1.cell? ⟨sb, 4, none⟩ = some (.int .i64 0) := h2.cell (by omega)
  have f4 := h2.frozen 4
  have H1 := hide h1
  have H2 := hide h2
  have H3 := hide h3
  clear h1 h2 h3
  go_upto_region 3 with (fail)
  refine wp_gen (fun W => Only sb pb w W ∧ W.rowIs sb 28 6 (stF (.slice a len cap) mode fv 1 0 0) ∧ W.heap[pb]? = some (.cells (List.replicate size (Value.int .u8 0)).toArray 5 (0, 0))) ⟨H1.out.trans (Only.setCell sb pb 4 _ w1), (H2.out.set 4 (.int .i64 0)).congr (fun i _ => stF_set4 _ _ _ i), by rw [Deep.blk_setCell_other _ _ _ _ (by exact hsp.symm)]; exact H3.out⟩ ?_
  clear H1 H2 H3 c4 f4
  intro w2 hR
  obtain ⟨h1, h2, h3⟩ := hR
  have c5 : w2.cell? ⟨sb, 5, none⟩ = some (.int .i64 0) := h2.cell (by omega)
  have f5 := h2.frozen 5
  have H1 := hide h1
  have H2 := hide h2
  have H3 := hide h3
  clear h1 h2 h3
  go_upto_region 4 with (fail)
  refine wp_gen (fun W => Only sb pb w W ∧ W.rowIs sb 28 6 (stF (.slice a len cap) mode fv 1 0 size) ∧ W.heap[pb]? = some (.cells (List.replicate size (Value.int .u8 0)).toArray 5 (0, 0))) ⟨H1.out.trans (Only.setCell sb pb 5 _ w2), (H2.out.set 5 (.int .i64 (size : Int))).congr (fun i hi => stF_set5 _ _ _ _ i hi), by rw [Deep.blk_setCell_other _ _ _ _ (by exact hsp.symm)]; exact H3.out⟩ ?_
  clear H1 H2 H3 c5 f5
  intro w3 hR
  obtain ⟨h1, h2, h3⟩ := hR
  have c0 : w3.cell? ⟨sb, 0, none⟩ = some (.slice a len cap) := h2.cell (by omega)
  have H1 := hide h1
  have H2 := hide h2
  have H3 := hide h3
  have HR3 := hide (h1.row HR.out HNE.out)
  clear h1 h2 h3
  by_cases hl0 : 0 < len
  · have hl0I : (0 : Int) < (len : Int) := by omega
    obtain ⟨b, off, rfl, _⟩ := HR3.out 0 hl0
    obtain ⟨cs, hcs⟩ : ∃ cs, cs = (List.range (min size len)).map fun i => Value.int .u8 (z i) := ⟨_, rfl⟩
    have hcl : cs.length = min size len := by rw [hcs]; simp
    have hc1 : ∀ v ∈ cs, v.oneCell' = true := by
      rw [hcs]; intro v hv; obtain ⟨i, _, rfl⟩ := List.mem_map.1 hv; rfl
    have hsrc : ∀ j v, cs[j]? = some v → w3.cell? ⟨b, off + j, none⟩ = some v := by
      intro j v hj
      have hjl : j < min size len := by have := (List.getElem?_eq_some_iff.1 hj).1; omega
      obtain ⟨b', off', e, hc, _⟩ := HR3.out j (by omega)
      simp at e
      obtain ⟨rfl, rfl⟩ := e
      rw [hc, ← hj, hcs, List.getElem?_map, List.getElem?_range hjl]; rfl
    have HCS := hide hcs
    have HCL := hide hcl
    have HC1 := hide hc1
    have HSRC := hide hsrc
    clear hcs hcl hc1 hsrc
    have hcap : (0 : Int) ≤ (cap : Int) := by omega
    have hcap0 : ¬ cap = 0 := by omega
    go_upto_region 7 with (refine wpList_copy_own rfl _ _ 22 22 rfl 5 Ybad.underlying22 (by kernel_rfl) pb 0 _ _ ⟨b, off, none⟩ _ _ rfl rfl _ 5 H3.out cs ?q1 ?q2 ?q3 HC1.out ?_)
    case q1 => rw [HCL.out]; exact Nat.min_comm _ _
    case q2 => intro j v hj; rw [Go.WideShapes.add_plain]; exact HSRC.out j v hj
    case q3 => rw [HCL.out]; simp; omega
    rw [HCL.out]
    refine wp_gen (fun W => Only sb pb w W ∧ W.rowIs sb 28 6 (stF (.slice (some ⟨b, off, none⟩) len cap) mode fv 1 0 size) ∧ W.rowIs pb 5 size (gotF z (min size len))) ⟨H1.out.trans (Only.setRow sb pb _ w3), H2.out.of_block (setRow_other w3 pb sb _ hsp), got_row (Nat.min_le_left _ _) cs HCS.out H3.out⟩ ?_
    clear H1 H2 H3 HCS HCL HC1 HSRC c0 HR3
    intro w4 hR
    obtain ⟨h1, h2, h3⟩ := hR
    have c1 : w4.cell? ⟨sb, 1, none⟩ = some (.int .u8 mode) := h2.cell (by omega)
    have c2 : w4.cell? ⟨sb, 2, none⟩ = some fv := h2.cell (by omega)
    have ce : w4.cell? ⟨0, 0, none⟩ = some ev := (h1.cell (p := ⟨0, 0, none⟩) h0s h0p).trans HEV.out
    have H1 := hide h1
    have H2 := hide h2
    have H3 := hide h3
    clear h1 h2 h3
    have hm4 : mode % 4 = 0 ∨ mode % 4 = 1 ∨ mode % 4 = 2 ∨ mode % 4 = 3 := by omega
    rcases hm4 with hm | hm | hm | hm
    · have b0 : (mode % 4 == 0) = true := by simp [hm]
      by_cases hsh : (min size len) < size
      · have hshI : (((min size len) : Nat) : Int) < (size : Int) := by omega
        have he : er = ev := by rw [HER.out]; simp [errOf, b0, hsh]
        have HE := hide he
        clear hm he
        go_wp2_with fail
        go_quiet (fail)
        go_wp2_with fail
        go_ret2
        exact ⟨by rw [HE.out]; rfl, H1.out.drewN _, H2.out, H3.out⟩
      · have hshI : ¬ (((min size len) : Nat) : Int) < (size : Int) := by omega
        have he : er = .nilIface := by rw [HER.out]; simp [errOf, b0, hsh]
        have HE := hide he
        clear hm he
        go_wp2_with fail
        go_ret2
        exact ⟨by rw [HE.out]; rfl, H1.out, H2.out, H3.out⟩
    · have b0 : (mode % 4 == 0) = false := by simp [hm]
      have b1 : (mode % 4 == 1) = true := by simp [hm]
      have he : er = .nilIface := by rw [HER.out]; simp only [errOf, b0, b1]; rfl
      have HE := hide he
      clear hm he
      go_wp2_with fail
      go_ret2
      exact ⟨by rw [HE.out]; rfl, H1.out, H2.out, H3.out⟩
    · have b0 : (mode % 4 == 0) = false := by simp [hm]
      have b1 : (mode % 4 == 1) = false := by simp [hm]
      have b2 : (mode % 4 == 2) = true := by simp [hm]
      have he : er = fv := by rw [HER.out]; simp only [errOf, b0, b1, b2]; rfl
      have HE := hide he
      clear hm he
      go_wp2_with fail
      go_quiet (fail)
      go_wp2_with fail
      go_ret2
      exact ⟨by rw [HE.out]; rfl, H1.out.drewN _, H2.out, H3.out⟩
    · have b0 : (mode % 4 == 0) = false := by simp [hm]
      have b1 : (mode % 4 == 1) = false := by simp [hm]
      have b2 : (mode % 4 == 2) = false := by simp [hm]
      have he : er = ev := by rw [HER.out]; simp only [errOf, b0, b1, b2]; rfl
      have HE := hide he
      clear hm he
      go_wp2_with fail
      go_quiet (fail)
      go_wp2_with fail
      go_ret2
      exact ⟨by rw [HE.out]; rfl, H1.out.drewN _, H2.out, H3.out⟩
  · have hl0I : ¬ (0 : Int) < (len : Int) := by omega
    have hmin : min size len = 0 := by omega
    have hg0 : w3.rowIs pb 5 size (gotF z 0) := ⟨_, H3.out, by simp, fun i hi => by simp [gotF, hi]⟩
    have HMIN := hide hmin
    obtain ⟨h1, h2, h3⟩ : Only sb pb w w3 ∧ w3.rowIs sb 28 6 (stF (.slice a len cap) mode fv 1 0 size) ∧ w3.rowIs pb 5 size (gotF z 0) := ⟨H1.out, H2.out, hg0⟩
    have c1 : w3.cell? ⟨sb, 1, none⟩ = some (.int .u8 mode) := h2.cell (by omega)
    have c2 : w3.cell? ⟨sb, 2, none⟩ = some fv := h2.cell (by omega)
    have ce : w3.cell? ⟨0, 0, none⟩ = some ev := (h1.cell (p := ⟨0, 0, none⟩) h0s h0p).trans HEV.out
    clear H1 H2 H3 hg0 hmin HR3
    have H1 := hide h1
    have H2 := hide h2
    have H3 := hide h3
    clear h1 h2 h3
    have hm4 : mode % 4 = 0 ∨ mode % 4 = 1 ∨ mode % 4 = 2 ∨ mode % 4 = 3 := by omega
    rcases hm4 with hm | hm | hm | hm
    · have b0 : (mode % 4 == 0) = true := by simp [hm]
      by_cases hsh : 0 < size
      · have hshI : ((0 : Nat) : Int) < (size : Int) := by omega
        have he : er = ev := by rw [HER.out, HMIN.out]; simp [errOf, b0, hsh]
        have HE := hide he
        clear hm he
        go_wp2_with fail
        go_quiet (fail)
        go_wp2_with fail
        go_ret2
        exact ⟨by rw [HE.out, HMIN.out]; rfl, H1.out.drewN _, H2.out, by rw [HMIN.out]; exact H3.out⟩
      · have hshI : ¬ ((0 : Nat) : Int) < (size : Int) := by omega
        have he : er = .nilIface := by rw [HER.out, HMIN.out]; simp [errOf, b0, hsh]
        have HE := hide he
        clear hm he
        go_wp2_with fail
        go_ret2
        exact ⟨by rw [HE.out, HMIN.out]; rfl, H1.out, H2.out, by rw [HMIN.out]; exact H3.out⟩
    · have b0 : (mode % 4 == 0) = false := by simp [hm]
      have b1 : (mode % 4 == 1) = true := by simp [hm]
      have he : er = .nilIface := by rw [HER.out, HMIN.out]; simp only [errOf, b0, b1]; rfl
      have HE := hide he
      clear hm he
      go_wp2_with fail
      go_ret2
      exact ⟨by rw [HE.out, HMIN.out]; rfl, H1.out, H2.out, by rw [HMIN.out]; exact H3.out⟩
    · have b0 : (mode % 4 == 0) = false := by simp [hm]
      have b1 : (mode % 4 == 1) = false := by simp [hm]
      have b2 : (mode % 4 == 2) = true := by simp [hm]
      have he : er = fv := by rw [HER.out, HMIN.out]; simp only [errOf, b0, b1, b2]; rfl
      have HE := hide he
      clear hm he
      go_wp2_with fail
      go_quiet (fail)
      go_wp2_with fail
      go_ret2
      exact ⟨by rw [HE.out, HMIN.out]; rfl, H1.out.drewN _, H2.out, by rw [HMIN.out]; exact H3.out⟩
    · have b0 : (mode % 4 == 0) = false := by simp [hm]
      have b1 : (mode % 4 == 1) = false := by simp [hm]
      have b2 : (mode % 4 == 2) = false := by simp [hm]
      have he : er = ev := by rw [HER.out, HMIN.out]; simp only [errOf, b0, b1, b2]; rfl
      have HE := hide he
      clear hm he
      go_wp2_with fail
      go_quiet (fail)
      go_wp2_with fail
      go_ret2
      exact ⟨by rw [HE.out, HMIN.out]; rfl, H1.out.drewN _, H2.out, by rw [HMIN.out]; exact H3.out⟩
end Go.Proofs.YbulkdpccDoor
