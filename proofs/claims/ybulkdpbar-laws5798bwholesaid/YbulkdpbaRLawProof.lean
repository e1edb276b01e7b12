/-
  Seat b5798a: the row Rows.LawS5798BWholeSaid, proved. By an AI agent.
-/
import Derived.Test.YbulkdpbaRLaw
import Derived.ProofKit
import Derived.OpenShut
import Derived.ChangeOld
import Derived.Below
import Derived.Deep.Slices
namespace Go.Proofs.YbulkdpbaR
open Go.ChangeShapes Go.WideShapes Go.ChangeAt Go.RowKit

namespace LawB
theorem own : ownKnob Yba.prog.godebug = none := by kernel_rfl
theorem laidOut : laidOutB Yba.prog = true := by kernel_rfl
theorem cells48 : Yba.prog.cellsOf 48 = 4 := by kernel_rfl
theorem cells5 : Yba.prog.cellsOf 5 = 1 := by kernel_rfl
theorem cells46 : Yba.prog.cellsOf 46 = 1 := by kernel_rfl

set_option maxRecDepth 100000 in
/-- One element of 'specs': four numbers. -/
theorem elem {H : Type} {enc : TypeId × Value → H} {w : World} {base : Nat} {sp : Nat → Bool} {held : Bool} {fuel : Nat} {cs : List Value} {x : DataW H × List MemPlace} (h : DataW.trod enc Yba.prog w base sp held fuel 48 cs = some x) :
    ∃ a b c d, cs = [.int .u8 a, .int .u8 b, .int .u8 c, .int .u16 d] ∧ (0 ≤ a ∧ a ≤ 255 ∧ 0 ≤ b ∧ b ≤ 255 ∧ 0 ≤ c ∧ c ≤ 255 ∧ 0 ≤ d ∧ d ≤ 65535) := by
  obtain ⟨xs, n, _, _, hl, hxl, hf⟩ := DataW.trod_struct Yba.underlying48 h
  rw [cells48] at hl
  match cs, hl with
  | [c0, c1, c2, c3], _ =>
    match xs, hxl with
    | [x0, x1, x2, x3], _ =>
      have f0 : DataW.trod enc Yba.prog w base sp held n 5 (([c0, c1, c2, c3].drop 0).take (Yba.prog.cellsOf 5)) = some x0 := hf 0 _ rfl
      have f1 : DataW.trod enc Yba.prog w base sp held n 5 (([c0, c1, c2, c3].drop 1).take (Yba.prog.cellsOf 5)) = some x1 := hf 1 _ rfl
      have f2 : DataW.trod enc Yba.prog w base sp held n 5 (([c0, c1, c2, c3].drop 2).take (Yba.prog.cellsOf 5)) = some x2 := hf 2 _ rfl
      have f3 : DataW.trod enc Yba.prog w base sp held n 46 (([c0, c1, c2, c3].drop 3).take (Yba.prog.cellsOf 46)) = some x3 := hf 3 _ rfl
      rw [cells5] at f0 f1 f2
      rw [cells46] at f3
      obtain ⟨a, e0, _, w0⟩ := DataW.trod_int Yba.underlying5 f0
      obtain ⟨b, e1, _, w1⟩ := DataW.trod_int Yba.underlying5 f1
      obtain ⟨c, e2, _, w2⟩ := DataW.trod_int Yba.underlying5 f2
      obtain ⟨d, e3, _, w3⟩ := DataW.trod_int Yba.underlying46 f3
      simp at e0 e1 e2 e3
      subst e0 e1 e2 e3
      refine ⟨a, b, c, d, rfl, ?_⟩
      simp [Lit.wf, IntKind.min, IntKind.max, IntKind.signed, IntKind.bits] at w0 w1 w2 w3
      omega
end LawB

set_option maxRecDepth 100000 in
/-- What the walk is told of 'specs'. -/
theorem specs_open {H : Type} {enc : TypeId × Value → H} {w : World} {ao : Option Addr} {len cap : Nat} {x : DataW H × List MemPlace} {fuel : Nat} (h : DataW.trod enc Yba.prog w 0 (fun _ => true) true fuel 22 [.slice ao len cap] = some x) :
    len ≤ 9223372036854775807 ∧ ∃ K N M P : Nat → Int,
      (∀ j, j < len → ∃ b off, ao = some ⟨b, off, none⟩ ∧ b < w.heap.size ∧ w.cell? ⟨b, off + j * 4, none⟩ = some (.int .u8 (K j)) ∧ w.cell? ⟨b, off + j * 4 + 1, none⟩ = some (.int .u8 (N j)) ∧ w.cell? ⟨b, off + j * 4 + 2, none⟩ = some (.int .u8 (M j)) ∧ w.cell? ⟨b, off + j * 4 + 3, none⟩ = some (.int .u16 (P j))) ∧
      (∀ j, j < len → 0 ≤ K j ∧ K j ≤ 255 ∧ 0 ≤ N j ∧ N j ≤ 255 ∧ 0 ≤ M j ∧ M j ≤ 255 ∧ 0 ≤ P j ∧ P j ≤ 65535) := by
  rcases Deep.open_slice Yba.underlying22 h with ⟨hcs, _⟩ | ⟨a, l, c, m, n, D, Pl, hcs, _, hl, hm, hmm, _, hel⟩
  · simp at hcs
    obtain ⟨rfl, rfl, rfl⟩ := hcs
    exact ⟨by omega, fun _ => 0, fun _ => 0, fun _ => 0, fun _ => 0, fun j hj => by omega, fun j hj => by omega⟩
  · simp at hcs
    obtain ⟨rfl, rfl, rfl⟩ := hcs
    simp only [if_true] at hmm
    subst hmm
    have hm' : len ≤ 9223372036854775807 := by unfold maxLen at hm; omega
    refine ⟨hm', ?_⟩
    have key : ∀ j, j < len → ∃ q : Int × Int × Int × Int, ∃ b off, a = ⟨b, off, none⟩ ∧ b < w.heap.size ∧ w.cell? ⟨b, off + j * 4, none⟩ = some (.int .u8 q.1) ∧ w.cell? ⟨b, off + j * 4 + 1, none⟩ = some (.int .u8 q.2.1) ∧ w.cell? ⟨b, off + j * 4 + 2, none⟩ = some (.int .u8 q.2.2.1) ∧ w.cell? ⟨b, off + j * 4 + 3, none⟩ = some (.int .u16 q.2.2.2) ∧
        (0 ≤ q.1 ∧ q.1 ≤ 255 ∧ 0 ≤ q.2.1 ∧ q.2.1 ≤ 255 ∧ 0 ≤ q.2.2.1 ∧ q.2.2.1 ≤ 255 ∧ 0 ≤ q.2.2.2 ∧ q.2.2.2 ≤ 65535) := by
      intro j hj
      obtain ⟨cs', hc', ht'⟩ := hel j (by omega)
      obtain ⟨p, q, r, s, rfl, hb⟩ := LawB.elem ht'
      rw [LawB.cells48] at hc'
      obtain ⟨_, _, hcell⟩ := World.cells?_some hc'
      have k0 := hcell 0 (by omega)
      have k1 := hcell 1 (by omega)
      have k2 := hcell 2 (by omega)
      have k3 := hcell 3 (by omega)
      simp only [Deep.add_add] at k0 k1 k2 k3
      obtain ⟨b, off, spot⟩ := a
      have hspot : spot = none := by
        obtain ⟨cs0, hc0, ht0⟩ := hel 0 (by omega)
        obtain ⟨p', q', r', s', rfl, _⟩ := LawB.elem ht0
        rw [LawB.cells48] at hc0
        obtain ⟨_, _, hcell0⟩ := World.cells?_some hc0
        have h00 := hcell0 0 (by omega)
        rw [Deep.add_add] at h00
        have h01 : ((⟨b, off, spot⟩ : Addr).add (0 * 4 + 0)).spot = none := World.cell?_spot (w := w) (v := .int .u8 p') h00
        simpa [Addr.add] using h01
      subst hspot
      simp only [Go.WideShapes.add_plain] at k0 k1 k2 k3
      have k0' : w.cell? ⟨b, off + j * 4, none⟩ = some (.int .u8 p) := by simpa using k0
      refine ⟨(p, q, r, s), b, off, rfl, World.block_lt_of_cell? w _ k0', k0', ?_, ?_, ?_, hb⟩
      · rw [Nat.add_assoc]; simpa using k1
      · rw [Nat.add_assoc]; simpa using k2
      · rw [Nat.add_assoc]; simpa using k3
    obtain ⟨f, hfk⟩ := Deep.choose_lt key
    refine ⟨fun j => (f j).1, fun j => (f j).2.1, fun j => (f j).2.2.1, fun j => (f j).2.2.2, fun j hj => ?_, fun j hj => ?_⟩
    · obtain ⟨b, off, rfl, h1, h2, h3, h4, h5, _⟩ := hfk j hj
      exact ⟨b, off, rfl, h1, h2, h3, h4, h5⟩
    · obtain ⟨_, _, _, _, _, _, _, _, h6⟩ := hfk j hj
      exact h6

set_option maxRecDepth 100000 in
theorem lifted (os : Os) (started : os.Started) (H : Type) (enc : TypeId × Value → H) :
    ReturnsInHanded {} Yba.checked os 3 .any (Rows.lawS5798BWholeSpec.pre6 enc Yba.prog Yba.f3 Rows.lawS5798BWholeRow.domain false) (Rows.lawS5798BWholeSpec.post enc Yba.prog Yba.f3 false true false false) := by
  refine returnsInHanded_of_change (C := Yba.checked) LawB.own started (by kernel_rfl) Yba.func3
    (ChangeSpec.witness6 (enc := enc) (C := Yba.checked) false ⟨#[], #[.slice none 0 0, .int .u8 0, .int .u8 0], []⟩ 8 (by kernel_rfl) (by kernel_rfl) (by kernel_rfl) (by kernel_rfl)) ?_
  intro W base args ds gs before hval0 hW hcnd _
  have hval : ∀ (j : Nat) t v, Yba.f3.params[j]? = some t → args[j]? = some v → Value.okWide Yba.prog W .any base t v := hval0
  have hW' := hW
  obtain ⟨p, q, hA0, hV, rfl, hfz, hnd⟩ := hW
  have hA : DataW.TrodAll enc Yba.prog W 0 (fun _ => true) true Yba.f3.params.toList args.toList ds p := hA0
  rw [Yba.params3] at hA hval
  obtain ⟨v0, v1, v2, d0, d1, d2, p0, p1, p2, rfl, rfl, rfl, h0, h1, h2⟩ := trodAll_three hA
  obtain ⟨rfl, rfl⟩ := trodVars_none hV
  obtain ⟨a0, len0, cap0, rfl⟩ := okWide_slice Yba.underlying22 (hval 0 22 v0 rfl rfl)
  obtain ⟨qm, rfl, rfl, rfl, w1⟩ := open_int Yba.underlying5 (hval 1 5 v1 rfl rfl) h1
  obtain ⟨qn, rfl, rfl, rfl, w2⟩ := open_int Yba.underlying5 (hval 2 5 v2 rfl rfl) h2
  have k0 := h0
  have lt0 : ∀ x ∈ p0, x.block < W.heap.size := by obtain ⟨m, hm⟩ := k0; exact DataW.trod_lt m _ _ _ hm
  obtain ⟨fuel, hf⟩ := h0
  obtain ⟨hlen, K, N, M, P, hcell, hbd⟩ := specs_open (by simpa [Value.cells] using hf)
  have hq : 0 ≤ qm ∧ qm ≤ 255 := by have := w1; simp [Lit.wf, IntKind.min, IntKind.max, IntKind.signed, IntKind.bits] at this; omega
  have hn : 0 ≤ qn ∧ qn ≤ 255 := by have := w2; simp [Lit.wf, IntKind.min, IntKind.max, IntKind.signed, IntKind.bits] at this; omega
  clear hA0 hval0
  have fin : Calls Yba.prog 3 #[.slice a0 len0 cap0, .int .u8 qm, .int .u8 qn] W fun e w' => e = .returned (.bool true) ∧ Below W.heap.size W w' := by
    by_cases hb : len0 ≤ 1024
    · exact law_small a0 len0 cap0 qm qn W hb hq.1 hq.2 hn.1 hn.2 K N M P hcell hbd
    · exact (law_big a0 len0 cap0 qm qn W (by omega) hlen).mono fun e w' h => ⟨h.1, h.2 ▸ Below.refl _ _⟩
  refine fin.mono fun e W' ⟨he, bel⟩ => ?_
  subst he
  exact ⟨_, rfl, _, _, _, [], _, [], hW', trodAll_mk1 (shut_bool Yba.underlying4 _), trodAll_mk3 (Below.trod LawB.laidOut (by kernel_rfl) (of_decide_eq_true (by kernel_rfl)) k0 bel lt0) (shut_int Yba.underlying5 w1) (shut_int Yba.underlying5 w2), rfl, bel.frame _, fun h => by cases h⟩

theorem lawS5798BWhole_proved : Rows.LawS5798BWholeSaid :=
  OpenClaim.holds_of_wide 3 Yba.f3 rfl rfl rfl rfl rfl rfl rfl ⟨rfl, rfl, rfl, rfl, rfl⟩ rfl rfl rfl rfl rfl (by kernel_rfl) Yba.func3 (by kernel_rfl)
    (of_decide_eq_true (by kernel_rfl)) (by unfold Func.isWrapper; first | (rw [if_pos (by decide +kernel)]; kernel_rfl) | (rw [if_neg (by decide +kernel)]; exact ⟨rfl, rfl⟩))
    (fun os started H enc _ => lifted os started H enc)

end Go.Proofs.YbulkdpbaR
