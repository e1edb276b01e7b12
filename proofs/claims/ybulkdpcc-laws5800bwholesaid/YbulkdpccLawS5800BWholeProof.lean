/-
  Seat b5800a: the row Rows.LawS5800BWholeSaid, proved. The frame is the given shell's (proof-skeleton.mjs), turned to the builder that hands on the arguments' sizes; the walk is filled in. By an AI agent.
-/
import Derived.Test.YbulkdpccRows
import Derived.Test.YbulkdpccLaw
import Derived.HandedShaped
import Derived.WalkKit
import Derived.ProofKit
import Derived.OpenShut
import Derived.ShutString
import Derived.ChangeOld
import Derived.Below
namespace Go.Proofs.Ybulkdpcc.lawS5800BWhole
open Go.ChangeShapes Go.WideShapes Go.ChangeAt Go.RowKit
open Go.ChangeMaps (open_string shut_string)
set_option linter.unusedVariables false

theorem own : ownKnob Yba.prog.godebug = none := by kernel_rfl
theorem laidOut : laidOutB Yba.prog = true := by kernel_rfl

/-- WHAT THE WALK IS TOLD OF A SLICE OF INTEGERS THAT CAME IN: it is nil; or it leads to a row of 'cap' cells, the numbers 'zs' (the first 'len' are its elements, the rest its spare room), each fitting its kind. -/
def IsRow (k : IntKind) (w : World) (a : Option Addr) (len cap : Nat) (zs : List Int) : Prop :=
  (a = none ∧ len = 0 ∧ cap = 0 ∧ zs = []) ∨
  ∃ x, a = some x ∧ len ≤ cap ∧ cap ≤ maxLen ∧ zs.length = cap ∧ (∀ i, i < zs.length → w.cell? (x.add i) = some (.int k (zs.getD i 0))) ∧ ∀ n ∈ zs, (Lit.int k n).wf = true

theorem row_of {w : World} {a : Option Addr} {len cap : Nat} {zs : List Int} (h : IsRow .u8 w a len cap zs) : (a = none → len = 0) ∧ Row w a len (fun i => zs.getD i 0) := by
  rcases h with ⟨rfl, rfl, rfl, rfl⟩ | ⟨x, rfl, hl, hm, hz, hc, hw⟩
  · exact ⟨fun _ => rfl, ⟨fun j hj => by omega⟩⟩
  · refine ⟨(fun h => by cases h), ⟨fun j hj => ?_⟩⟩
    obtain ⟨b, off, rfl, hc2⟩ := ints_at hc (by omega)
    have hcj := hc2 j (by omega)
    have hmem : zs.getD j 0 ∈ zs := by
      have : j < zs.length := by omega
      simp [List.getD, this]
    have hwf := hw _ hmem
    simp [Lit.wf, IntKind.min, IntKind.max, IntKind.signed, IntKind.bits] at hwf
    exact ⟨b, off, rfl, hcj, by simpa using hwf.1, by have := hwf.2; simp; omega⟩

/-- A slice's length is at most what the row's own size clause allows. -/
theorem len_le {H : Type} {enc : TypeId × Value → H} {W : World} {base : Nat} {sp : Nat → Bool} {held : Bool} {fuel : Nat} {a : Option Addr} {len cap : Nat} {d : DataW H} {p : List MemPlace}
    (hf : DataW.trod enc Yba.prog W base sp held fuel 22 (Value.slice a len cap).cells.toList = some (d, p)) (hsp : ∀ k, sp k = true) (hw : ∀ n ∈ d.weights Yba.prog 22, n ≤ reachBytes) : len ≤ 140737488351232 := by
  rcases open_ints Yba.underlying22 Yba.underlying5 (by kernel_rfl) hf with ⟨hcs, _⟩ | ⟨x, l, c, zs, hcs, _, hl, hm, hz, hx, _, _⟩
  · simp [Value.cells] at hcs
    omega
  · simp [Value.cells] at hcs
    obtain ⟨rfl, rfl, rfl⟩ := hcs
    injection hx with hd _
    rw [hsp] at hz
    simp only [if_true] at hz
    have h1 : Yba.prog.bytesOf 5 = 1 := by kernel_rfl
    have := hw ((lits IntKind.u8 (zs.take len) : List (DataW H)).length + (lits IntKind.u8 (zs.drop len) : List (DataW H)).length) (by
      rw [hd]
      simp [DataW.weights, Yba.underlying22, h1])
    simp [lits] at this
    unfold reachBytes at this
    omega

/-! ### The walk -/
theorem walk (a0 : Bool) (a1 : Option Addr) (len1 cap1 : Nat) (z1 : List Int) (a2 : Option Addr) (len2 cap2 : Nat) (z2 : List Int) (a3 : Option Addr) (len3 cap3 : Nat) (z3 : List Int) (a4 : Option Addr) (len4 cap4 : Nat) (z4 : List Int) (w : World) (w1 : IsRow .u8 w a1 len1 cap1 z1) (w2 : IsRow .u8 w a2 len2 cap2 z2) (w3 : IsRow .u8 w a3 len3 cap3 z3) (w4 : IsRow .u8 w a4 len4 cap4 z4)
    (l1 : len1 ≤ 140737488351232) (l2 : len2 ≤ 140737488351232) (l3 : len3 ≤ 140737488351232) (l4 : len4 ≤ 140737488351232) :
    Calls Yba.prog 3 #[.bool a0, .slice a1 len1 cap1, .slice a2 len2 cap2, .slice a3 len3 cap3, .slice a4 len4 cap4] w fun e w' => e = .returned (.bool true) ∧ Below w.heap.size w w' := by
  obtain ⟨e1, r1⟩ := row_of w1
  obtain ⟨e2, r2⟩ := row_of w2
  obtain ⟨e3, r3⟩ := row_of w3
  obtain ⟨e4, r4⟩ := row_of w4
  by_cases hs : len1 + len2 + len3 + len4 ≤ 1048576
  · exact law_main a0 _ a1 a2 a3 a4 len1 cap1 len2 cap2 len3 cap3 len4 cap4 _ _ _ _ w hs r1 r2 r3 r4 e1 e2 e3 e4 rfl
  · exact (law_out a0 a1 a2 a3 a4 len1 cap1 len2 cap2 len3 cap3 len4 cap4 w l1 l2 l3 l4 (by omega)).mono fun e w' h => ⟨h.1, h.2 ▸ Below.refl _ _⟩

/-! ### THE ROW's STEP: WRITTEN OUT: LEAVE IT -/
set_option maxRecDepth 100000 in
theorem lifted (os : Os) (started : os.Started) (H : Type) (enc : TypeId × Value → H) :
    ReturnsInHanded {} Yba.checked os 3 .any (Rows.lawS5800BWholeSpec.pre6 enc Yba.prog Yba.f3 Rows.lawS5800BWholeRow.domain false) (Rows.lawS5800BWholeSpec.post enc Yba.prog Yba.f3 false true false false) := by
  refine returnsInHanded_of_change_shaped (C := Yba.checked) own started (by kernel_rfl) Yba.func3
    (ChangeSpec.witness6 (enc := enc) (C := Yba.checked) false ⟨#[], #[.bool false, .slice none 0 0, .slice none 0 0, .slice none 0 0, .slice none 0 0], []⟩ 8 (by kernel_rfl) (by kernel_rfl) (by kernel_rfl) (by kernel_rfl)) ?_
  intro W base args ds gs before hval0 hW hcnd hsz0 _ _
  have hval : ∀ (j : Nat) t v, Yba.f3.params[j]? = some t → args[j]? = some v → Value.okWide Yba.prog W .any base t v := hval0
  have hW' := hW
  obtain ⟨p, q, hA0, hV, rfl, hfz, hnd⟩ := hW
  have hA : DataW.TrodAll enc Yba.prog W 0 (fun _ => true) true Yba.f3.params.toList args.toList ds p := hA0
  rw [Yba.params3] at hA hval
  obtain ⟨v0, vs0, d0, ds0, p0, q0, hargs, rfl, rfl, h0, r0⟩ := trodAll_cons hA
  obtain ⟨v1, vs1, d1, ds1, p1, q1, rfl, rfl, rfl, h1, r1⟩ := trodAll_cons r0
  obtain ⟨v2, vs2, d2, ds2, p2, q2, rfl, rfl, rfl, h2, r2⟩ := trodAll_cons r1
  obtain ⟨v3, vs3, d3, ds3, p3, q3, rfl, rfl, rfl, h3, r3⟩ := trodAll_cons r2
  obtain ⟨v4, vs4, d4, ds4, p4, q4, rfl, rfl, rfl, h4, r4⟩ := trodAll_cons r3
  obtain ⟨rfl, rfl, rfl⟩ := trodAll_nil r4
  obtain rfl : args = #[v0, v1, v2, v3, v4] := by cases args; simp_all
  obtain ⟨rfl, rfl⟩ := trodVars_none hV
  obtain ⟨a0, rfl, rfl, rfl⟩ := open_bool Yba.underlying4 (hval 0 4 v0 rfl rfl) h0
  obtain ⟨a1, len1, cap1, rfl⟩ := okWide_slice Yba.underlying22 (hval 1 22 v1 rfl rfl)
  have k1 := h1
  have lt1 : ∀ x ∈ p1, x.block < W.heap.size := by obtain ⟨m, hm⟩ := k1; exact DataW.trod_lt m _ _ _ hm
  obtain ⟨z1, w1⟩ : ∃ zs, IsRow .u8 W a1 len1 cap1 zs := by
    obtain ⟨fuel, hf⟩ := h1
    rcases open_ints Yba.underlying22 Yba.underlying5 (by kernel_rfl) hf with ⟨hcs, _⟩ | ⟨x, l, c, zs, hcs, _, hl, hm, hz, _, hcell, hwz⟩
    · simp [Value.cells] at hcs
      obtain ⟨rfl, rfl, rfl⟩ := hcs
      exact ⟨[], .inl ⟨rfl, rfl, rfl, rfl⟩⟩
    · simp [Value.cells] at hcs
      obtain ⟨rfl, rfl, rfl⟩ := hcs
      exact ⟨zs, .inr ⟨_, rfl, hl, hm, by simpa using hz, hcell, hwz⟩⟩
  obtain ⟨a2, len2, cap2, rfl⟩ := okWide_slice Yba.underlying22 (hval 2 22 v2 rfl rfl)
  have k2 := h2
  have lt2 : ∀ x ∈ p2, x.block < W.heap.size := by obtain ⟨m, hm⟩ := k2; exact DataW.trod_lt m _ _ _ hm
  obtain ⟨z2, w2⟩ : ∃ zs, IsRow .u8 W a2 len2 cap2 zs := by
    obtain ⟨fuel, hf⟩ := h2
    rcases open_ints Yba.underlying22 Yba.underlying5 (by kernel_rfl) hf with ⟨hcs, _⟩ | ⟨x, l, c, zs, hcs, _, hl, hm, hz, _, hcell, hwz⟩
    · simp [Value.cells] at hcs
      obtain ⟨rfl, rfl, rfl⟩ := hcs
      exact ⟨[], .inl ⟨rfl, rfl, rfl, rfl⟩⟩
    · simp [Value.cells] at hcs
      obtain ⟨rfl, rfl, rfl⟩ := hcs
      exact ⟨zs, .inr ⟨_, rfl, hl, hm, by simpa using hz, hcell, hwz⟩⟩
  obtain ⟨a3, len3, cap3, rfl⟩ := okWide_slice Yba.underlying22 (hval 3 22 v3 rfl rfl)
  have k3 := h3
  have lt3 : ∀ x ∈ p3, x.block < W.heap.size := by obtain ⟨m, hm⟩ := k3; exact DataW.trod_lt m _ _ _ hm
  obtain ⟨z3, w3⟩ : ∃ zs, IsRow .u8 W a3 len3 cap3 zs := by
    obtain ⟨fuel, hf⟩ := h3
    rcases open_ints Yba.underlying22 Yba.underlying5 (by kernel_rfl) hf with ⟨hcs, _⟩ | ⟨x, l, c, zs, hcs, _, hl, hm, hz, _, hcell, hwz⟩
    · simp [Value.cells] at hcs
      obtain ⟨rfl, rfl, rfl⟩ := hcs
      exact ⟨[], .inl ⟨rfl, rfl, rfl, rfl⟩⟩
    · simp [Value.cells] at hcs
      obtain ⟨rfl, rfl, rfl⟩ := hcs
      exact ⟨zs, .inr ⟨_, rfl, hl, hm, by simpa using hz, hcell, hwz⟩⟩
  obtain ⟨a4, len4, cap4, rfl⟩ := okWide_slice Yba.underlying22 (hval 4 22 v4 rfl rfl)
  have k4 := h4
  have lt4 : ∀ x ∈ p4, x.block < W.heap.size := by obtain ⟨m, hm⟩ := k4; exact DataW.trod_lt m _ _ _ hm
  obtain ⟨z4, w4⟩ : ∃ zs, IsRow .u8 W a4 len4 cap4 zs := by
    obtain ⟨fuel, hf⟩ := h4
    rcases open_ints Yba.underlying22 Yba.underlying5 (by kernel_rfl) hf with ⟨hcs, _⟩ | ⟨x, l, c, zs, hcs, _, hl, hm, hz, _, hcell, hwz⟩
    · simp [Value.cells] at hcs
      obtain ⟨rfl, rfl, rfl⟩ := hcs
      exact ⟨[], .inl ⟨rfl, rfl, rfl, rfl⟩⟩
    · simp [Value.cells] at hcs
      obtain ⟨rfl, rfl, rfl⟩ := hcs
      exact ⟨zs, .inr ⟨_, rfl, hl, hm, by simpa using hz, hcell, hwz⟩⟩
  have hsz : ∀ n ∈ DataW.weightsEach Yba.prog (Yba.f3.params.toList ++ []) ([.lit (.bool a0), d1, d2, d3, d4] ++ []), n ≤ reachBytes := fun n hn => of_decide_eq_true (List.all_eq_true.1 hsz0 n hn)
  rw [Yba.params3] at hsz
  simp only [List.append_nil, DataW.weightsEach, List.mem_append] at hsz
  have sz1 : len1 ≤ 140737488351232 := by
    obtain ⟨fuel, hf⟩ := k1
    exact len_le hf (fun _ => rfl) (fun n hn => hsz n (by simp [hn]))
  have sz2 : len2 ≤ 140737488351232 := by
    obtain ⟨fuel, hf⟩ := k2
    exact len_le hf (fun _ => rfl) (fun n hn => hsz n (by simp [hn]))
  have sz3 : len3 ≤ 140737488351232 := by
    obtain ⟨fuel, hf⟩ := k3
    exact len_le hf (fun _ => rfl) (fun n hn => hsz n (by simp [hn]))
  have sz4 : len4 ≤ 140737488351232 := by
    obtain ⟨fuel, hf⟩ := k4
    exact len_le hf (fun _ => rfl) (fun n hn => hsz n (by simp [hn]))
  clear hA0 hval0
  refine (walk a0 a1 len1 cap1 z1 a2 len2 cap2 z2 a3 len3 cap3 z3 a4 len4 cap4 z4 W w1 w2 w3 w4 sz1 sz2 sz3 sz4).mono fun e W' ⟨he, bel⟩ => ?_
  subst he
  exact ⟨_, rfl, _, _, _, [], _, [], hW', trodAll_mk1 (shut_bool Yba.underlying4 _), (trodAll_cons_mk (shut_bool Yba.underlying4 _) (trodAll_cons_mk (Below.trod laidOut (by kernel_rfl) (of_decide_eq_true (by kernel_rfl)) k1 bel lt1) (trodAll_cons_mk (Below.trod laidOut (by kernel_rfl) (of_decide_eq_true (by kernel_rfl)) k2 bel lt2) (trodAll_cons_mk (Below.trod laidOut (by kernel_rfl) (of_decide_eq_true (by kernel_rfl)) k3 bel lt3) (trodAll_cons_mk (Below.trod laidOut (by kernel_rfl) (of_decide_eq_true (by kernel_rfl)) k4 bel lt4) trodAll_mk0))))), rfl, bel.frame _, fun h => by cases h⟩

theorem over : Rows.lawS5800BWholeRow.holds Yba.pinned (OpenSpec.ofChange Rows.lawS5800BWholeSpec) :=
  OpenClaim.holds_of_wide 3 Yba.f3 rfl rfl rfl rfl rfl rfl rfl ⟨rfl, rfl, rfl, rfl, rfl⟩ rfl rfl rfl rfl rfl (by kernel_rfl) Yba.func3 (by kernel_rfl)
    (of_decide_eq_true (by kernel_rfl)) (by unfold Func.isWrapper; first | (rw [if_pos (by decide +kernel)]; kernel_rfl) | (rw [if_neg (by decide +kernel)]; exact ⟨rfl, rfl⟩))
    (fun os started H enc _ => lifted os started H enc)

/-- ████ THE STATEMENT ████ -/
theorem proved : Rows.LawS5800BWholeSaid := over
end Go.Proofs.Ybulkdpcc.lawS5800BWhole
