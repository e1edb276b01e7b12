/-
  Seat b5800aF: the told and tied card Rows.LawS5800CWholeToldSaid, proved. By an AI agent.
-/
import Derived.Test.YbulkdpccFmtTie
import Derived.Test.YbulkdpccFmtCards
import Derived.Test.YbulkdpccFmtLaw
import Derived.ProofKit
import Derived.OpenShut
import Derived.OpenVars
import Derived.LaidMore
import Derived.LaidLaws
import Derived.MakeChecks
import Derived.Maps.Keyed
import Derived.Stop.JoinedAt
import Derived.Stop.Texts
import Derived.Stop.ErrReads
import Derived.Stop.JoinedTold
import Derived.Stop.Joined
import Derived.Deep.DeepWitnessRef
import Derived.SevenToldRow
import Derived.SevenTiedAt
namespace Go.Proofs.YbulkdpccFmt
open Go.ChangeShapes Go.WideShapes Go.ChangeAt Go.WideElems Go.RowKit Go.Kit
open Go.Extern.Stop Go.Stop Go.Extern

namespace LawC
theorem own : ownKnob Ybaf.prog.godebug = none := by kernel_rfl
theorem laidOut : laidOutB Ybaf.pinned.checked.prog = true := by kernel_rfl
theorem laidOut' : laidOutB Ybaf.prog = true := by kernel_rfl
theorem stops : Ybaf.pinned.checked.prog.stops = ["fmt.Sprintf, its operands' methods called", "fmt.errorf"] := by kernel_rfl
theorem stopKnobs : Ybaf.pinned.checked.prog.stopKnobs = [] := by kernel_rfl
theorem quiet (os : Os) : Stop.quiet Ybaf.pinned.checked.prog os := by
  intro k hk
  rw [stopKnobs] at hk
  cases hk
theorem gErr : Ybaf.prog.globalNamed "example.com/leafline/leafline.ErrCorrupt" = some 0 := by kernel_rfl
theorem tErr : (Ybaf.prog.globals[0]?).map (·.type) = some 26 := by kernel_rfl
theorem gMap : Ybaf.prog.globalNamed "example.com/leafline/leafline.kindNames" = some 2 := by kernel_rfl
theorem tMap : (Ybaf.prog.globals[2]?).map (·.type) = some 42 := by kernel_rfl
theorem cells61 : Ybaf.prog.cellsOf 61 = 1 := by kernel_rfl
theorem cells9 : Ybaf.prog.cellsOf 9 = 1 := by kernel_rfl
theorem row59 (u : TypeId) (h : Ybaf.prog.typeName? 3 u = some "*errors.errorString") : u = 59 := by
  have star : ("*errors.errorString" : String) = "*" ++ "errors.errorString" := by decide
  exact typeName_ptr_named (nm := "errors.errorString") (by rw [← star]; kernel_rfl) (by kernel_rfl) (by decide) u (by rw [← star]; exact h)
end LawC

/-- What 'laid' gives the walk. -/
theorem of_laid {W : World} (h0 : laidMetH Ybaf.prog Rows.lawS5800CWholeRow.laid W) :
    ∃ (a : Addr) (t : ByteArray) (bm : Nat), W.cell? ⟨0, 0, none⟩ = some (.iface 59 (.pointer (some a))) ∧ W.cell? a = some (.string t) ∧ W.cell? ⟨2, 0, none⟩ = some (.map (some bm)) ∧
      ∀ W', Below W.heap.size W W' → ∃ s, (Instr.lookup 42 (.map (some bm)) (.int .u8 3) false).run Ybaf.prog W' = .ok (.string s) W' := by
  have h : laidMet Ybaf.prog [("example.com/leafline/leafline.ErrCorrupt", Rows.laid_example_com_leafline_leafline_ErrCorrupt), ("example.com/leafline/leafline.kindNames", Rows.laid_example_com_leafline_leafline_kindNames)] W := by
    have h := h0
    rw [MakeChecks.laidMetH_plain _ _ _ (by kernel_rfl)] at h
    exact h
  obtain ⟨ps, ⟨g0, t0, cs0, f0, p0, q0, hg0, ht0, hv0, hd0, ⟨g1, t1, cs1, f1, p1, q1, hg1, ht1, hv1, hd1, _, e1⟩, e0⟩, _, hrows⟩ := h
  obtain rfl := Option.some.inj (LawC.gErr.symm.trans hg0)
  obtain rfl := Option.some.inj (LawC.gMap.symm.trans hg1)
  obtain rfl := Option.some.inj (LawC.tErr.symm.trans ht0)
  obtain rfl := Option.some.inj (LawC.tMap.symm.trans ht1)
  subst e1
  subst e0
  obtain ⟨l0⟩ := cs0
  have ok0 : ∀ u v, l0 = [.iface u v] → Value.okWide Ybaf.prog W .any 0 u v := fun u v e => by
    subst e
    exact (hrows 0 0 (by simp [MemPlace.row])).2 u v (by simpa using World.var?_cell hg0 hv0 0)
  obtain ⟨a0, s0, rfl, hc0, hs0, hz0, _⟩ := errorString_of_trod Ybaf.underlying26 LawC.row59 Ybaf.underlying59 Ybaf.underlying61 rfl rfl Ybaf.underlying9 LawC.cells61 LawC.cells9 hd0 ok0
  rcases open_map Ybaf.underlying42 hd1 with ⟨_, hx⟩ | ⟨bm, es, clock, m, rfl, hcs, hb, _, F, hx⟩
  · simp [Rows.laid_example_com_leafline_leafline_kindNames] at hx
  have hcell : W.cell? ⟨2, 0, none⟩ = some (.map (some bm)) := by
    have := World.var?_cell hg1 hv1 0
    rw [Array.eq_one_of_toList hcs] at this
    simpa using this
  refine ⟨a0, s0, bm, by simpa using World.var?_cell hg0 hv0 0, hc0, hcell, fun W' hbe => ?_⟩
  have hlt : bm < W.heap.size := (Array.getElem?_eq_some_iff.1 hb).1
  have hb' : W'.heap[bm]? = some (.map es clock) := (hbe.block bm hlt).trans hb
  have zero : (zeroValue 9).run Ybaf.prog W' = .ok (.string ⟨#[]⟩) W' := by kernel_rfl
  rcases Maps.fit_look (w := W') false (Maps.int_keyed Ybaf.underlying5) Ybaf.underlying42 zero hb' F (Maps.keyOf_int_mk Ybaf.underlying5 (a := 3) (by decide)) with ⟨hrun, _⟩ | ⟨e0, y, _, _, hrun, hR, _⟩
  · exact ⟨_, hrun⟩
  · obtain ⟨s, hs, _⟩ := elemAt_string Ybaf.underlying9 hR
    exact ⟨s, by rw [hs] at hrun; exact hrun⟩

/-- What the walk is told of a slice of integers that came in. -/
def IsRow (k : IntKind) (w : World) (a : Option Addr) (len cap : Nat) (zs : List Int) : Prop :=
  (a = none ∧ len = 0 ∧ cap = 0 ∧ zs = []) ∨
  ∃ x, a = some x ∧ len ≤ cap ∧ cap ≤ maxLen ∧ zs.length = cap ∧ (∀ i, i < zs.length → w.cell? (x.add i) = some (.int k (zs.getD i 0))) ∧ ∀ n ∈ zs, (Lit.int k n).wf = true

theorem row_of {w : World} {a : Option Addr} {len cap : Nat} {zs : List Int} (h : IsRow .u8 w a len cap zs) : len ≤ 9223372036854775807 ∧ Row w a len (fun i => zs.getD i 0) := by
  rcases h with ⟨rfl, rfl, rfl, rfl⟩ | ⟨x, rfl, hl, hm, hz, hc, _⟩
  · exact ⟨by omega, fun j hj => by omega⟩
  · unfold maxLen at hm
    refine ⟨by omega, fun j hj => ?_⟩
    obtain ⟨b, off, rfl, hc2⟩ := ints_at hc (by omega)
    exact ⟨b, off, rfl, hc2 j (by omega)⟩

theorem walk (F : Interp) (a : Option Addr) (len cap : Nat) (zs : List Int) (force : Bool) (n : Int) (w : World) (hF : F.answers w.tape) (h0 : IsRow .u8 w a len cap zs) (hL : laidMetH Ybaf.prog Rows.lawS5800CWholeRow.laid w) :
    Calls Ybaf.prog 3 #[.slice a len cap, .bool force, .int .u32 n] w fun e w' => e = .returned (.bool true) ∧ Below w.heap.size w w' := by
  obtain ⟨hl63, hr⟩ := row_of h0
  by_cases hb : 1048576 < len
  · exact (law_out a len cap force n w hl63 hb).mono fun e w' h => ⟨h.1, h.2 ▸ Below.refl _ _⟩
  · obtain ⟨b, t, bm, hg, hbt, hmp, hl⟩ := of_laid hL
    exact law_main F a len cap bm force n _ b t w (by omega) hr hF hg hbt hmp hl

theorem door_met (os : Os) (args : Array Value) : laidMetH Ybaf.prog Rows.lawS5800CWholeRow.laid ((World.doorLaid Ybaf.prog 600 os).forCall (fun _ _ => 0) ⟨#[], args, []⟩).memory :=
  laidMetH_of_parts3 (fuel := 8) (laidMet_of_run' 8 (by kernel_rfl) (by kernel_rfl)) (by kernel_rfl) (by kernel_rfl)

set_option maxRecDepth 100000 in
theorem t_lifted (os : Os) (started : os.Started) (H : Type) (enc : TypeId × Value → H) :
    ReturnsInTold none {} Ybaf.checked os 3 .any Input.okWide ((OpenSpec.ofChange Rows.lawS5800CWholeSpec).preRow enc Ybaf.prog Ybaf.f3 [] false Rows.lawS5800CWholeRow.laid) (fun F => ((OpenSpec.ofChange Rows.lawS5800CWholeSpec).at F).post enc Ybaf.prog Ybaf.f3 false true false false) (aloneAtReturn Ybaf.prog) nothingAlways := by
  refine returnsInTold_of_row (C := Ybaf.checked) (s := OpenSpec.ofChange Rows.lawS5800CWholeSpec) (by kernel_rfl) LawC.own started (by kernel_rfl) Ybaf.func3
    (OpenSpec.witness_stopped_atRef (enc := enc) (C := Ybaf.checked) false (World.doorLaid Ybaf.prog 600 os) #[.slice none 0 0, .bool false, .int .u32 0] rfl (by kernel_rfl) (by kernel_rfl) (by kernel_rfl) (OpenSpec.preRow_of_B rfl 8 (by kernel_rfl) (by kernel_rfl) (door_met os _))) ?_
  intro F W base args ds gs before _ hF hval0 hW _ _ hsz hL _
  have hval : ∀ (j : Nat) t v, Ybaf.f3.params[j]? = some t → args[j]? = some v → Value.okWide Ybaf.prog W .any base t v := hval0
  have hW' := hW
  obtain ⟨p, q, hA0, hV, rfl, hfz, hnd⟩ := hW
  have hA : DataW.TrodAll enc Ybaf.prog W 0 (fun _ => true) true Ybaf.f3.params.toList args.toList ds p := hA0
  rw [Ybaf.params3] at hA hval
  obtain ⟨v0, vs0, d0, ds0, p0, q0, hargs, rfl, rfl, h0, r0⟩ := trodAll_cons hA
  obtain ⟨v1, vs1, d1, ds1, p1, q1, rfl, rfl, rfl, h1, r1⟩ := trodAll_cons r0
  obtain ⟨v2, vs2, d2, ds2, p2, q2, rfl, rfl, rfl, h2, r2⟩ := trodAll_cons r1
  obtain ⟨rfl, rfl, rfl⟩ := trodAll_nil r2
  obtain rfl : args = #[v0, v1, v2] := by cases args; simp_all
  obtain ⟨g0, g1, rfl⟩ : ∃ g0 g1, gs = [g0, g1] := by
    have hv := hV
    match gs, hv with
    | [g0, g1], _ => exact ⟨g0, g1, rfl⟩
    | [], hv => exact hv.elim
    | [_], hv => obtain ⟨_, _, _, _, _, _, _, _, _, _, h, _⟩ := hv; exact h.elim
    | _ :: _ :: _ :: _, hv => obtain ⟨_, _, _, _, _, _, _, _, _, _, h, _⟩ := hv; obtain ⟨_, _, _, _, _, _, _, _, _, _, h, _⟩ := h; exact h.elim
  obtain ⟨a0, len0, cap0, rfl⟩ := okWide_slice Ybaf.underlying22 (hval 0 22 v0 rfl rfl)
  have k0 := h0
  have lt0 : ∀ x ∈ p0, x.block < W.heap.size := by obtain ⟨m, hm⟩ := k0; exact DataW.trod_lt m _ _ _ hm
  obtain ⟨z0, w0⟩ : ∃ zs, IsRow .u8 W a0 len0 cap0 zs := by
    obtain ⟨fuel, hf⟩ := h0
    rcases open_ints Ybaf.underlying22 Ybaf.underlying5 (by kernel_rfl) hf with ⟨hcs, _⟩ | ⟨x, l, c, zs, hcs, _, hl, hm, hz, _, hcell, hwz⟩
    · simp [Value.cells] at hcs
      obtain ⟨rfl, rfl, rfl⟩ := hcs
      exact ⟨[], .inl ⟨rfl, rfl, rfl, rfl⟩⟩
    · simp [Value.cells] at hcs
      obtain ⟨rfl, rfl, rfl⟩ := hcs
      exact ⟨zs, .inr ⟨_, rfl, hl, hm, by simpa using hz, hcell, hwz⟩⟩
  obtain ⟨force, rfl, rfl, rfl⟩ := open_bool Ybaf.underlying4 (hval 1 4 v1 rfl rfl) h1
  obtain ⟨n, rfl, rfl, rfl, wn⟩ := open_int Ybaf.underlying23 (hval 2 23 v2 rfl rfl) h2
  clear hA0 hval0
  refine (walk F.told a0 len0 cap0 z0 force n W hF w0 hL).mono fun e W' ⟨he, bel⟩ => ?_
  subst he
  exact ⟨_, rfl, _, _, _, [], _, _, hW', trodAll_mk1 (shut_bool Ybaf.underlying4 _), (trodAll_cons_mk (Below.trod LawC.laidOut' (by kernel_rfl) (of_decide_eq_true (by kernel_rfl)) k0 bel lt0) (trodAll_cons_mk (shut_bool Ybaf.underlying4 _) (trodAll_cons_mk (shut_int Ybaf.underlying23 wn) trodAll_mk0))), Below.trodVars LawC.laidOut' bel (by kernel_rfl) hV, bel.frame _, fun h => by cases h⟩

/-- The statement. -/
theorem lawS5800CWhole_told : Rows.LawS5800CWholeToldSaid :=
  Claim7.holds_of_told_tied_any_at .later 3 Ybaf.f3 "fmt.Sprintf, its operands' methods called" ["fmt.errorf"] [] _ _ _ _ _ (by kernel_rfl) rfl rfl rfl LawC.laidOut (by kernel_rfl) rfl ⟨rfl, rfl, rfl, rfl, rfl, rfl, rfl⟩ rfl rfl (by kernel_rfl) (by kernel_rfl) Ybaf.func3 (by kernel_rfl)
    (of_decide_eq_true (by kernel_rfl)) (of_decide_eq_true (by kernel_rfl)) LawC.stops.symm rfl LawC.stopKnobs.symm (by kernel_rfl)
    (by kernel_rfl) (by kernel_rfl) (by kernel_rfl) (by kernel_rfl) (by kernel_rfl) (by kernel_rfl) (by kernel_rfl) (by kernel_rfl) (by kernel_rfl) rfl (by kernel_rfl) rfl rfl
    rfl rfl
    rfl (by kernel_rfl) (by kernel_rfl) (by kernel_rfl) (by decide) (by kernel_rfl) lawS5800CWhole_row_tie
    (OpenClaim.moreEntering_of (by kernel_rfl) (by kernel_rfl) (by kernel_rfl) (by kernel_rfl) (by kernel_rfl) (by kernel_rfl) (by kernel_rfl) (by kernel_rfl) (by kernel_rfl) (by kernel_rfl))
    ⟨_, WideRow.started_initial, LawC.quiet _⟩
    (fun os started _ H enc _ => t_lifted os started H enc)

end Go.Proofs.YbulkdpccFmt
