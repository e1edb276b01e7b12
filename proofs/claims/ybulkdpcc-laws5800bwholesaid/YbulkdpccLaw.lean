/-
  Seat b5800a: the law by its contract. By an AI agent.
-/
import Derived.Test.YbulkdpccSep
namespace Go.Proofs.Ybulkdpcc
open Go.RowKit

/-- What stands behind the four copies. -/
structure Four (w W : World) (a1 a2 a3 a4 x1 x2 x3 x4 : Option Addr) (n1 n2 n3 n4 : Nat) (z1 z2 z3 z4 : Nat → Int) : Prop where
  below : Below w.heap.size w W
  ra1 : Row W a1 n1 z1
  ra2 : Row W a2 n2 z2
  ra3 : Row W a3 n3 z3
  ra4 : Row W a4 n4 z4
  rx1 : Row W x1 n1 z1
  rx2 : Row W x2 n2 z2
  rx3 : Row W x3 n3 z3
  rx4 : Row W x4 n4 z4

theorem Four.on {w W W' : World} {a1 a2 a3 a4 x1 x2 x3 x4 : Option Addr} {n1 n2 n3 n4 : Nat} {z1 z2 z3 z4 : Nat → Int} (h : Four w W a1 a2 a3 a4 x1 x2 x3 x4 n1 n2 n3 n4 z1 z2 z3 z4) (k : Below W.heap.size W W') :
    Four w W' a1 a2 a3 a4 x1 x2 x3 x4 n1 n2 n3 n4 z1 z2 z3 z4 :=
  ⟨h.below.trans (k.mono h.below.size), h.ra1.below k (Nat.le_refl _), h.ra2.below k (Nat.le_refl _), h.ra3.below k (Nat.le_refl _), h.ra4.below k (Nat.le_refl _), h.rx1.below k (Nat.le_refl _), h.rx2.below k (Nat.le_refl _), h.rx3.below k (Nat.le_refl _), h.rx4.below k (Nat.le_refl _)⟩

theorem four_of {w wA wB wC wD : World} {a1 a2 a3 a4 x1 x2 x3 x4 : Option Addr} {n1 n2 n3 n4 : Nat} {z1 z2 z3 z4 : Nat → Int} (h1 : Row w a1 n1 z1) (h2 : Row w a2 n2 z2) (h3 : Row w a3 n3 z3) (h4 : Row w a4 n4 z4)
    (bA : Below w.heap.size w wA) (rA : Row wA x1 n1 z1) (bB : Below wA.heap.size wA wB) (rB : Row wB x2 n2 z2) (bC : Below wB.heap.size wB wC) (rC : Row wC x3 n3 z3) (bD : Below wC.heap.size wC wD) (rD : Row wD x4 n4 z4) :
    Four w wD a1 a2 a3 a4 x1 x2 x3 x4 n1 n2 n3 n4 z1 z2 z3 z4 := by
  have b2 : Below w.heap.size w wB := bA.trans (bB.mono bA.size)
  have b3 : Below w.heap.size w wC := b2.trans (bC.mono b2.size)
  have b4 : Below w.heap.size w wD := b3.trans (bD.mono b3.size)
  exact ⟨b4, h1.below b4 (Nat.le_refl _), h2.below b4 (Nat.le_refl _), h3.below b4 (Nat.le_refl _), h4.below b4 (Nat.le_refl _),
    ((rA.below bB (Nat.le_refl _)).below bC (Nat.le_refl _)).below bD (Nat.le_refl _), (rB.below bC (Nat.le_refl _)).below bD (Nat.le_refl _), rC.below bD (Nat.le_refl _), rD⟩

set_option maxRecDepth 20000 in
set_option maxHeartbeats 4000000 in
theorem law_main (dup r : Bool) (a1 a2 a3 a4 : Option Addr) (n1 k1 n2 k2 n3 k3 n4 k4 : Nat) (z1 z2 z3 z4 : Nat → Int) (w : World) (hs : n1 + n2 + n3 + n4 ≤ 1048576)
    (h1 : Row w a1 n1 z1) (h2 : Row w a2 n2 z2) (h3 : Row w a3 n3 z3) (h4 : Row w a4 n4 z4) (e1 : a1 = none → n1 = 0) (e2 : a2 = none → n2 = 0) (e3 : a3 = none → n3 = 0) (e4 : a4 = none → n4 = 0) (hr : eqB n1 n3 z1 z3 = r) :
    Calls Yba.prog 3 #[.bool dup, .slice a1 n1 k1, .slice a2 n2 k2, .slice a3 n3 k3, .slice a4 n4 k4] w fun e w' => e = .returned (.bool true) ∧ Below w.heap.size w w' := by
  have l1 : n1 ≤ 1048576 := by omega
  have l2 : n2 ≤ 1048576 := by omega
  have l3 : n3 ≤ 1048576 := by omega
  have l4 : n4 ≤ 1048576 := by omega
  have hsI : ¬ (1048576 : Int) < (n1 : Int) + (n2 : Int) + (n3 : Int) + (n4 : Int) := by omega
  have H1 := hide h1
  have H2 := hide h2
  have H3 := hide h3
  have H4 := hide h4
  have E1 := hide e1
  have E2 := hide e2
  have E3 := hide e3
  have E4 := hide e4
  have HV := hide hr
  clear h1 h2 h3 h4 e1 e2 e3 e4 hr
  go_enter Yba.func3, Yba.ntmps3
  go_upto_region 4 with (first
    | (go_at_call_of 4 (Value.slice a1 n1 k1); refine (copy_any a1 n1 k1 z1 w l1 H1.out E1.out).mono ?_; rintro e wA ⟨x1, rfl, i1, b1, r1⟩; have B1 := hide b1; have R1 := hide r1; have I1 := hide i1; clear b1 r1 i1)
    | (go_at_call_of 4 (Value.slice a2 n2 k2); refine (copy_any a2 n2 k2 z2 wA l2 (H2.out.below B1.out (Nat.le_refl _)) E2.out).mono ?_; rintro e wB ⟨x2, rfl, i2, b2, r2⟩; have B2 := hide b2; have R2 := hide r2; have I2 := hide i2; clear b2 r2 i2)
    | (go_at_call_of 4 (Value.slice a3 n3 k3); refine (copy_any a3 n3 k3 z3 wB l3 ((H3.out.below B1.out (Nat.le_refl _)).below B2.out (Nat.le_refl _)) E3.out).mono ?_; rintro e wC ⟨x3, rfl, i3, b3, r3⟩; have B3 := hide b3; have R3 := hide r3; have I3 := hide i3; clear b3 r3 i3)
    | (go_at_call_of 4 (Value.slice a4 n4 k4); refine (copy_any a4 n4 k4 z4 wC l4 (((H4.out.below B1.out (Nat.le_refl _)).below B2.out (Nat.le_refl _)).below B3.out (Nat.le_refl _)) E4.out).mono ?_; rintro e wD ⟨x4, rfl, i4, b4, r4⟩; have B4 := hide b4; have R4 := hide r4; have I4 := hide i4; clear b4 r4 i4))
  have hf := four_of H1.out H2.out H3.out H4.out B1.out R1.out B2.out R2.out B3.out R3.out B4.out R4.out
  have HF := hide hf
  clear hf H1 H2 H3 H4 B1 B2 B3 B4 R1 R2 R3 R4
  go_upto_region 5 with (fail)
  obtain ⟨av, nv, kv, hV, hyes, hno⟩ : ∃ (av : Option Addr) (nv kv : Nat), (if (dup && eqB n1 n3 z1 z3) = true then Value.slice a4 n4 k4 else Value.slice none 0 0) = Value.slice av nv kv ∧ ((dup && r) = true → av = a4 ∧ nv = n4 ∧ kv = k4) ∧ ((dup && r) = false → av = none ∧ nv = 0 ∧ kv = 0) := by
    rw [HV.out]
    cases h : (dup && r)
    · exact ⟨none, 0, 0, rfl, (fun h => by cases h), fun _ => ⟨rfl, rfl, rfl⟩⟩
    · exact ⟨a4, n4, k4, rfl, fun _ => ⟨rfl, rfl, rfl⟩, (fun h => by cases h)⟩
  have HVV := hide hV
  have HY := hide hyes
  have HN := hide hno
  clear hV hyes hno
  refine wp_gen (fun W => Four w W a1 a2 a3 a4 x1 x2 x3 x4 n1 n2 n3 n4 z1 z2 z3 z4 ∧ W.cell? ⟨wD.heap.size, 0, none⟩ = some (.bool dup)) ⟨HF.out.on ((Below.refl _ wD).alloc (Nat.le_refl _) _), by simp only [World.cell?, Deep.blk_alloc_new]; rfl⟩ ?_
  generalize wD.heap.size = ob
  clear HF
  intro w5 hR
  obtain ⟨hf5, ob5⟩ := hR
  have HF5 := hide hf5
  clear hf5
  go_upto_region 6 with (go_at_call 5; go_must (refine (sep_any dup a1 a3 n1 k1 n3 k3 a2 a4 n2 k2 n4 k4 z1 z3 w5 HF5.out.ra1 HF5.out.ra3).mono ?_); rintro e w6 ⟨rfl, b6⟩; rw [HVV.out]; have B6 := hide b6; clear b6)
  refine wp_gen (fun W => Four w W a1 a2 a3 a4 x1 x2 x3 x4 n1 n2 n3 n4 z1 z2 z3 z4 ∧ W.cell? ⟨w6.heap.size, 0, none⟩ = some (.slice a3 n3 k3) ∧ W.cell? ⟨w6.heap.size, 1, none⟩ = some (.slice av nv kv)) ⟨(HF5.out.on B6.out).on ((Below.refl _ w6).alloc (Nat.le_refl _) _), by simp only [World.cell?, Deep.blk_alloc_new]; rfl, by simp only [World.cell?, Deep.blk_alloc_new]; rfl⟩ ?_
  generalize w6.heap.size = rb
  clear HF5 B6 ob5
  intro w7 hR
  obtain ⟨hf7, c0, c1⟩ := hR
  have HF7 := hide hf7
  clear hf7
  go_upto_region 8 with (first
    | (go_at_call_of 6 (Value.slice a1 n1 k1); refine (keep_any a1 x1 n1 k1 n1 z1 w7 l1 HF7.out.ra1 HF7.out.rx1 I1.out).mono ?_; rintro e w8 ⟨rfl, m1, rfl⟩)
    | (go_at_call_of 6 (Value.slice a2 n2 k2); refine (keep_any a2 x2 n2 k2 n2 z2 _ l2 (HF7.out.ra2.drewN _) (HF7.out.rx2.drewN _) I2.out).mono ?_; rintro e w8 ⟨rfl, m2, rfl⟩)
    | (go_at_call_of 6 (Value.slice a3 n3 k3); refine (keep_any a3 x3 n3 k3 n3 z3 _ l3 (HF7.out.ra3.drewN _) (HF7.out.rx3.drewN _) I3.out).mono ?_; rintro e w8 ⟨rfl, m3, rfl⟩)
    | (go_at_call_of 6 (Value.slice a4 n4 k4); refine (keep_any a4 x4 n4 k4 n4 z4 _ l4 (HF7.out.ra4.drewN _) (HF7.out.rx4.drewN _) I4.out).mono ?_; rintro e w8 ⟨rfl, m4, rfl⟩))
  have hq := eql_nil none 0 0
  have hbe := HF7.out.below
  have HBE := hide hbe
  clear hbe
  cases dup
  · obtain ⟨rfl, rfl, rfl⟩ := HN.out rfl
    go_wp2_with (go_at_call 7; refine (same_any a3 n3 k3 z3 _ l3 (HF7.out.ra3.drewN _)).mono ?_; rintro e w8 ⟨rfl, m5, rfl⟩)
    go_ret
    exact ⟨rfl, below_drewN HBE.out _⟩
  · cases r
    · obtain ⟨rfl, rfl, rfl⟩ := HN.out rfl
      go_wp2_with (first
        | (go_at_call 7; refine (same_any a3 n3 k3 z3 _ l3 (HF7.out.ra3.drewN _)).mono ?_; rintro e w8 ⟨rfl, m5, rfl⟩)
        | (go_at_call 8; refine (eq_any x1 x3 n1 n3 n1 n3 z1 z3 _ l1 l3 (HF7.out.rx1.drewN _) (HF7.out.rx3.drewN _)).mono ?_; rintro e w8 ⟨rfl, m6, rfl⟩; rw [HV.out]))
      go_ret
      exact ⟨rfl, below_drewN HBE.out _⟩
    · obtain ⟨rfl, rfl, rfl⟩ := HY.out rfl
      go_wp2_with (first
        | (go_at_call_of 7 (Value.slice a3 n3 k3); refine (same_any a3 n3 k3 z3 _ l3 (HF7.out.ra3.drewN _)).mono ?_; rintro e w8 ⟨rfl, m5, rfl⟩)
        | (go_at_call_of 7 (Value.slice av nv kv); refine (same_any av nv kv z4 _ l4 (HF7.out.ra4.drewN _)).mono ?_; rintro e w8 ⟨rfl, m7, rfl⟩)
        | (go_at_call 8; refine (eq_any x1 x3 n1 n3 n1 n3 z1 z3 _ l1 l3 (HF7.out.rx1.drewN _) (HF7.out.rx3.drewN _)).mono ?_; rintro e w8 ⟨rfl, m6, rfl⟩; rw [HV.out]))
      go_ret
      exact ⟨rfl, below_drewN HBE.out _⟩

set_option maxRecDepth 20000 in
set_option maxHeartbeats 1000000 in
theorem law_out (dup : Bool) (a1 a2 a3 a4 : Option Addr) (n1 k1 n2 k2 n3 k3 n4 k4 : Nat) (w : World) (l1 : n1 ≤ 140737488351232) (l2 : n2 ≤ 140737488351232) (l3 : n3 ≤ 140737488351232) (l4 : n4 ≤ 140737488351232) (hs : 1048576 < n1 + n2 + n3 + n4) :
    Calls Yba.prog 3 #[.bool dup, .slice a1 n1 k1, .slice a2 n2 k2, .slice a3 n3 k3, .slice a4 n4 k4] w fun e w' => e = .returned (.bool true) ∧ w' = w := by
  have hsI : (1048576 : Int) < (n1 : Int) + (n2 : Int) + (n3 : Int) + (n4 : Int) := by omega
  go_enter Yba.func3, Yba.ntmps3
  go_wp2_with fail
  go_ret
  exact ⟨rfl, rfl⟩
end Go.Proofs.Ybulkdpcc
