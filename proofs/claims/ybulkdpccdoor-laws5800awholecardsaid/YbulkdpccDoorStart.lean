/-
  Seat b5800aD: readStart by its contract. By an AI agent.
-/
import Derived.Test.YbulkdpccDoorRead
namespace Go.Proofs.YbulkdpccDoor
open Go.RowKit

section
variable {P : Program} (w : World)
theorem run_neq_iface_ptr_same {ti tp te : TypeId} {ms : Array (String × TypeId)} {i j : TypeInfo} (a : Addr)
    (hi : P.underlying ti = some (.interface ms)) (hp : P.underlying tp = some (.pointer te)) (hinfo : P.info? tp = some i) (hcomp : i.comparable = true) (hte : P.info? te = some j) :
    (binOp .neq ti (.iface tp (.pointer (some a))) (.iface tp (.pointer (some a)))).run P w = .ok (.bool false) w := by
  simp only [binOp]
  simp [Op.equal, Op.maxDepth, run_equalIn_iface_ptr_same w 9998 a hi hp hinfo hcomp hte]
theorem run_neq_iface_ptr_other {ti tp te : TypeId} {ms : Array (String × TypeId)} {i j : TypeInfo} {a b : Addr} {ca cb : Array Value} {ta tb : TypeId}
    (hi : P.underlying ti = some (.interface ms)) (hp : P.underlying tp = some (.pointer te)) (hinfo : P.info? tp = some i) (hcomp : i.comparable = true) (hte : P.info? te = some j) (hsz : j.size ≠ 0)
    (hne : a ≠ b) (ha : w.heap[a.block]? = some (.cells ca ta (0, 0))) (hb : w.heap[b.block]? = some (.cells cb tb (0, 0))) :
    (binOp .neq ti (.iface tp (.pointer (some a))) (.iface tp (.pointer (some b)))).run P w = .ok (.bool true) w := by
  simp only [binOp]
  simp [Op.equal, Op.maxDepth, run_equalIn_iface_ptr_other w 9998 hi hp hinfo hcomp hte hsz hne ha hb]
end

theorem Ybad.ptr33 : (Ybad.prog.info? 33).map (·.comparable) = some true := by kernel_rfl
theorem Ybad.str35 : (Ybad.prog.info? 35).map (·.size) = some 1 := by kernel_rfl
theorem Ybad.under24 : ∃ ms, Ybad.prog.underlying 24 = some (.interface ms) := by
  have h : (match Ybad.prog.underlying 24 with | some (.interface _) => true | _ => false) = true := by kernel_rfl
  split at h
  · exact ⟨_, by assumption⟩
  · cases h
theorem Ybad.under33 : Ybad.prog.underlying 33 = some (.pointer 35) := by kernel_rfl

theorem neq_same (a : Addr) (w : World) : (binOp .neq 24 (.iface 33 (.pointer (some a))) (.iface 33 (.pointer (some a)))).run Ybad.prog w = .ok (.bool false) w := by
  obtain ⟨ms, hi⟩ := Ybad.under24
  obtain ⟨i, h1, h2⟩ := Option.map_eq_some_iff.1 Ybad.ptr33
  obtain ⟨j, h3, _⟩ := Option.map_eq_some_iff.1 Ybad.str35
  exact run_neq_iface_ptr_same w a hi Ybad.under33 h1 h2 h3
theorem eql_same (a : Addr) (w : World) : (binOp .eql 24 (.iface 33 (.pointer (some a))) (.iface 33 (.pointer (some a)))).run Ybad.prog w = .ok (.bool true) w := by
  obtain ⟨ms, hi⟩ := Ybad.under24
  obtain ⟨i, h1, h2⟩ := Option.map_eq_some_iff.1 Ybad.ptr33
  obtain ⟨j, h3, _⟩ := Option.map_eq_some_iff.1 Ybad.str35
  exact run_eql_iface_ptr_same w a hi Ybad.under33 h1 h2 h3
theorem neq_other {a b : Addr} {ca cb : Array Value} {ta tb : TypeId} (w : World) (hne : a ≠ b) (ha : w.heap[a.block]? = some (.cells ca ta (0, 0))) (hb : w.heap[b.block]? = some (.cells cb tb (0, 0))) : (binOp .neq 24 (.iface 33 (.pointer (some a))) (.iface 33 (.pointer (some b)))).run Ybad.prog w = .ok (.bool true) w := by
  obtain ⟨ms, hi⟩ := Ybad.under24
  obtain ⟨i, h1, h2⟩ := Option.map_eq_some_iff.1 Ybad.ptr33
  obtain ⟨j, h3, h4⟩ := Option.map_eq_some_iff.1 Ybad.str35
  exact run_neq_iface_ptr_other w hi Ybad.under33 h1 h2 h3 (by rw [h4]; decide) hne ha hb

theorem made_rep (v : Value) (n : Nat) : madeCells #[v] n = (List.replicate n v).toArray := by
  apply Array.ext
  · simp [madeCells]
  · intro i h1 h2; simp [madeCells, Nat.mod_one]

set_option maxRecDepth 20000 in
set_option maxHeartbeats 2000000 in
theorem start_any (sb size len cap fb : Nat) (ea : Addr) (te : TypeId) (a : Option Addr) (mode : Int) (ce cf : Array Value) (z : Nat → Int) (w : World) (m0 : 0 ≤ mode) (m1 : mode ≤ 255) (hs1 : size ≤ 1048576) (hl1 : len ≤ 1048576)
    (hs : w.rowIs sb 28 6 (stF (.slice a len cap) mode (.iface 33 (.pointer (some ⟨fb, 0, none⟩))) 0 0 0)) (hr : Row w a len z) (hlc : len ≤ cap) (hne : ∀ b off, a = some ⟨b, off, none⟩ → 0 < len → b ≠ sb ∧ b ≠ w.heap.size)
    (hev : w.cell? ⟨0, 0, none⟩ = some (.iface 33 (.pointer (some ea)))) (h0s : 0 ≠ sb) (hef : ea.block ≠ fb) (hfs : fb ≠ sb) (hes : ea.block ≠ sb)
    (he : w.heap[ea.block]? = some (.cells ce te (0, 0))) (hf : w.heap[fb]? = some (.cells cf 35 (0, 0))) :
    Calls Ybad.prog 5 #[.iface 26 (.pointer (some ⟨sb, 0, none⟩)), .int .i64 size] w fun e w' =>
      e = .returned (if mode % 4 = 2 then .tuple #[.slice none 0 0, .iface 33 (.pointer (some ⟨fb, 0, none⟩))] else .tuple #[.slice (some ⟨w.heap.size, 0, none⟩) (min size len) (min size len), .nilIface]) ∧ Only sb w.heap.size (w.alloc (.cells (Array.replicate size (Value.int .u8 0)) 5)) w' ∧
      w'.rowIs sb 28 6 (stF (.slice a len cap) mode (.iface 33 (.pointer (some ⟨fb, 0, none⟩))) 1 0 size) ∧ w'.rowIs w.heap.size 5 size (gotF z (min size len)) := by
  have hss : sb < w.heap.size := by obtain ⟨c, h, _⟩ := hs; exact (Array.getElem?_eq_some_iff.1 h).1
  have h0s' : 0 < w.heap.size := by omega
  have hm1 := run_make_row' (P := Ybad.prog) 22 5 (.int .u8 0) 1 Ybad.underlying22 Ybad.info5 rfl .i64 .i64 size (by omega) (by omega)
  have HS := hide hs
  have HR := hide hr
  have HNE := hide hne
  have HEV := hide hev
  have HE := hide he
  have HF := hide hf
  clear hs hr hne hev he hf
  go_enter Ybad.func5, Ybad.ntmps5
  go_upto_region 2 with (fail)
  rw [made_rep]
  refine wp_gen (fun W => W = w.alloc (.cells (List.replicate size (Value.int .u8 0)).toArray 5)) rfl ?_
  intro w1 hw1
  have hmeth : ∀ W : World, (method 172 26 (.pointer (some ⟨sb, 0, none⟩)) "ReadAt").run Ybad.prog W = .ok (22, .pointer (some ⟨sb, 0, none⟩)) W := fun W => by kernel_rfl
  have hg : ∀ k, k < w.heap.size → w1.heap[k]? = w.heap[k]? := fun k hk => by rw [hw1]; exact Deep.blk_alloc_lt _ _ _ hk
  have hgc : ∀ p : Addr, ∀ v, w.cell? p = some v → w1.cell? p = some v := fun p v h => (World.cell?_of_block (hg _ (World.block_lt_of_cell? w _ h))).trans h
  have hs' : w1.rowIs sb 28 6 (stF (.slice a len cap) mode (.iface 33 (.pointer (some ⟨fb, 0, none⟩))) 0 0 0) := HS.out.of_block (hg _ hss)
  have hr' : Row w1 a len z := fun j hj => by
    obtain ⟨b, off, e, hc, h0, h1⟩ := HR.out j hj
    exact ⟨b, off, e, hgc _ _ hc, h0, h1⟩
  have hp' : w1.heap[w.heap.size]? = some (.cells (List.replicate size (Value.int .u8 0)).toArray 5 (0, 0)) := by rw [hw1]; exact Deep.blk_alloc_new _ _
  have hev' := hgc _ _ HEV.out
  have hef' := (hg _ (Array.getElem?_eq_some_iff.1 HE.out).1).trans HE.out
  have hff' := (hg _ (Array.getElem?_eq_some_iff.1 HF.out).1).trans HF.out
  have hen : ea.block ≠ w.heap.size := by have := (Array.getElem?_eq_some_iff.1 HE.out).1; omega
  have hfn : fb ≠ w.heap.size := by have := (Array.getElem?_eq_some_iff.1 HF.out).1; omega
  have HS' := hide hs'
  have HR' := hide hr'
  have HP' := hide hp'
  have HEV' := hide hev'
  have HE' := hide hef'
  have HF' := hide hff'
  have HW1 := hide hw1
  clear hs' hr' hp' hev' hef' hff' hw1 HS HR HEV HE HF
  go_upto_region 3 with (go_at_call 22; refine (readAt_any sb w.heap.size size len cap a mode _ _ z _ m0 m1 (by omega) hs1 hl1 HS'.out HP'.out HR'.out hlc HNE.out HEV'.out h0s (by omega)).mono ?_; rintro e w3 ⟨rfl, h1, h2, h3⟩; have H1 := hide h1; have H2 := hide h2; have H3 := hide h3; clear h1 h2 h3)
  have hev3 : w3.cell? ⟨0, 0, none⟩ = some (.iface 33 (.pointer (some ea))) := (H1.out.cell (p := ⟨0, 0, none⟩) h0s (Nat.ne_of_lt h0s')).trans HEV'.out
  have he3 : w3.heap[ea.block]? = some (.cells ce te (0, 0)) := (H1.out.block ea.block hes hen).trans HE'.out
  have hf3 : w3.heap[fb]? = some (.cells cf 35 (0, 0)) := (H1.out.block fb hfs hfn).trans HF'.out
  have hq : ∀ W : World, W.heap = w3.heap → (binOp .neq 24 (.iface 33 (.pointer (some ⟨fb, 0, none⟩))) (.iface 33 (.pointer (some ea)))).run Ybad.prog W = .ok (.bool true) W := fun W hW => neq_other W (by intro h; apply hef; rw [← h]) (by rw [hW]; exact hf3) (by rw [hW]; exact he3)
  have hq1 := hq w3 rfl
  have hq2 : ∀ m : Nat, (binOp .neq 24 (.iface 33 (.pointer (some ⟨fb, 0, none⟩))) (.iface 33 (.pointer (some ea)))).run Ybad.prog (w3.drewN m) = .ok (.bool true) (w3.drewN m) := fun m => hq _ rfl
  have hqs := neq_same ea
  clear he3 hf3 hq
  have hw1 := HW1.out
  rw [List.toArray_replicate] at hw1
  rw [hw1] at H1
  clear hw1
  by_cases hm : mode % 4 = 2
  · have hee : errOf mode (.iface 33 (.pointer (some ⟨fb, 0, none⟩))) (.iface 33 (.pointer (some ea))) (decide (min size len < size)) = .iface 33 (.pointer (some ⟨fb, 0, none⟩)) := by simp [errOf, hm]
    rw [hee]
    clear hee
    go_wp2_with fail
    go_ret2
    exact ⟨rfl, H1.out, H2.out, H3.out⟩
  · have hee : errOf mode (.iface 33 (.pointer (some ⟨fb, 0, none⟩))) (.iface 33 (.pointer (some ea))) (decide (min size len < size)) = .nilIface ∨ errOf mode (.iface 33 (.pointer (some ⟨fb, 0, none⟩))) (.iface 33 (.pointer (some ea))) (decide (min size len < size)) = .iface 33 (.pointer (some ea)) := by
      unfold errOf
      repeat' split
      all_goals simp_all
    rcases hee with hee | hee
    · rw [hee]
      clear hee
      go_wp2_with fail
      go_ret2
      exact ⟨rfl, H1.out, H2.out, H3.out⟩
    · rw [hee]
      clear hee
      go_wp2_with fail
      go_ret2
      exact ⟨rfl, H1.out, H2.out, H3.out⟩
end Go.Proofs.YbulkdpccDoor
