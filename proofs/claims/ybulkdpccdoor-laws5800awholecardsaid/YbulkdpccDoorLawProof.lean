/-
  Seat b5800aD: the row Rows.LawS5800AWholeSaid and its tied card, proved. By an AI agent.
-/
import Derived.Test.YbulkdpccDoorRows
import Derived.Test.YbulkdpccDoorTie
import Derived.Test.YbulkdpccDoorCards
import Derived.Test.YbulkdpccDoorLaw
import Derived.WalkKit
import Derived.ProofKit
import Derived.OpenShut
import Derived.ShutString
import Derived.ChangeOld
import Derived.ChangeVars
import Derived.Below
import Derived.JoinedOf
import Derived.JoinedAt
import Derived.LaidLaws
import Derived.Lay
import Derived.MakeChecks
import Derived.Stop.LaidErr
import Derived.SevenTiedAt
namespace Go.Proofs.YbulkdpccDoor
open Go.ChangeShapes Go.WideShapes Go.ChangeAt Go.RowKit

theorem lawOwn : ownKnob Ybad.prog.godebug = none := by kernel_rfl
theorem lawLaidOut : laidOutB Ybad.prog = true := by kernel_rfl
theorem lawEof : Ybad.prog.globalNamed "io.EOF" = some 0 := by kernel_rfl
theorem lawEofType : (Ybad.prog.globals[0]?).map (·.type) = some 24 := by kernel_rfl

theorem lawCells35 : Ybad.prog.cellsOf 35 = 1 := by kernel_rfl
theorem lawCells9 : Ybad.prog.cellsOf 9 = 1 := by kernel_rfl

/-- What the walk is told of a slice of integers that came in: it is nil; or it leads to a row of 'cap' cells, the numbers 'zs' (the first 'len' are its elements, the rest its spare room), each fitting its kind. -/
def IsRow (k : IntKind) (w : World) (a : Option Addr) (len cap : Nat) (zs : List Int) : Prop :=
  (a = none ∧ len = 0 ∧ cap = 0 ∧ zs = []) ∨
  ∃ x, a = some x ∧ len ≤ cap ∧ cap ≤ maxLen ∧ zs.length = cap ∧ (∀ i, i < zs.length → w.cell? (x.add i) = some (.int k (zs.getD i 0))) ∧ ∀ n ∈ zs, (Lit.int k n).wf = true

theorem row_of {w : World} {a : Option Addr} {len cap : Nat} {zs : List Int} (h : IsRow .u8 w a len cap zs) : len ≤ cap ∧ len ≤ 9223372036854775807 ∧ Row w a len (fun i => zs.getD i 0) := by
  rcases h with ⟨rfl, rfl, rfl, rfl⟩ | ⟨x, rfl, hl, hm, hz, hc, hw⟩
  · exact ⟨by omega, by omega, fun j hj => by omega⟩
  · unfold maxLen at hm
    refine ⟨hl, by omega, fun j hj => ?_⟩
    obtain ⟨b, off, rfl, hc2⟩ := ints_at hc (by omega)
    have hcj := hc2 j (by omega)
    have hmem : zs.getD j 0 ∈ zs := by
      have : j < zs.length := by omega
      simp [List.getD, this]
    have hwf := hw _ hmem
    simp [Lit.wf, IntKind.min, IntKind.max, IntKind.signed, IntKind.bits] at hwf
    exact ⟨b, off, rfl, hcj, by simpa using hwf.1, by have := hwf.2; simp; omega⟩

theorem row33 (u : TypeId) (h : Ybad.prog.typeName? 3 u = some "*errors.errorString") : u = 33 := by
  have star : ("*errors.errorString" : String) = "*" ++ "errors.errorString" := by decide
  exact typeName_ptr_named (nm := "errors.errorString") (by rw [← star]; kernel_rfl) (by kernel_rfl) (by decide) u (by rw [← star]; exact h)


/-- What 'laid' gives the walk. -/
theorem eof_of_laid {W : World} (h : laidMet Ybad.prog [("io.EOF", Rows.laid_io_EOF)] W) :
    ∃ (a : Addr) (c : Array Value) (t : TypeId), W.cell? ⟨0, 0, none⟩ = some (.iface 33 (.pointer (some a))) ∧ W.heap[a.block]? = some (.cells c t (0, 0)) := by
  obtain ⟨ps, ⟨g0, t0, cs0, f0, p0, q0, hg0, ht0, hv0, hd0, hq0, e0⟩, hnd, hrows⟩ := h
  obtain rfl := Option.some.inj (lawEof.symm.trans hg0)
  obtain rfl := Option.some.inj (lawEofType.symm.trans ht0)
  subst e0
  obtain ⟨l0⟩ := cs0
  have ok0 : ∀ u v, l0 = [.iface u v] → Value.okWide Ybad.prog W .any 0 u v := fun u v e => by
    subst e
    exact (hrows 0 0 (by simp [MemPlace.row])).2 u v (by simpa using World.var?_cell hg0 hv0 0)
  obtain ⟨ms, hi⟩ := Ybad.under24
  obtain ⟨a0, s0, rfl, hc0, hs0, hz0, rfl⟩ := errorString_of_trod hi row33 Ybad.under33 Ybad.underlying35 rfl rfl Ybad.underlying9 lawCells35 lawCells9 hd0 ok0
  obtain ⟨c0, t0, hb0⟩ := (hrows a0.block a0.off (by simp [MemPlace.row])).1
  exact ⟨a0, c0, t0, by simpa using World.var?_cell hg0 hv0 0, hb0⟩

/-! ### The walk -/
theorem walk (a : Option Addr) (len cap : Nat) (zs : List Int) (size mode : Int) (w : World) (h0 : IsRow .u8 w a len cap zs) (hm : (Lit.int .u8 mode).wf = true)
    (hl : laidMet Ybad.prog [("io.EOF", Rows.laid_io_EOF)] w) :
    Calls Ybad.prog 3 #[.slice a len cap, .int .i64 size, .int .u8 mode] w fun e w' => e = .returned (.bool true) ∧ Below w.heap.size w w' := by
  obtain ⟨hlc, hl63, hr⟩ := row_of h0
  by_cases hout : size < 0 ∨ 1048576 < size ∨ 1048576 < len
  · exact (law_out a len cap size mode w hl63 hout).mono fun e w' h => ⟨h.1, h.2 ▸ Below.refl _ _⟩
  · obtain ⟨s, rfl⟩ := Int.eq_ofNat_of_zero_le (show 0 ≤ size by omega)
    obtain ⟨ea, ce, te, hev, he⟩ := eof_of_laid hl
    simp [Lit.wf, IntKind.min, IntKind.max, IntKind.signed, IntKind.bits] at hm
    exact law_main a len cap s mode _ w ea te ce (by omega) (by omega) (by omega) (by omega) hlc hr hev he

/-! ### The row's step -/
set_option maxRecDepth 100000 in
theorem lifted (os : Os) (started : os.Started) (H : Type) (enc : TypeId × Value → H) :
    ReturnsInHanded {} Ybad.checked os 3 .any (fun w args => (Rows.lawS5800AWholeSpec.pre enc Ybad.prog Ybad.f3 [] false w args ∧ laidMetH Ybad.prog [("io.EOF", Rows.laid_io_EOF)] w) ∧ sizedMet enc Ybad.prog Ybad.f3 (OpenSpec.ofChange Rows.lawS5800AWholeSpec) false w args)
      (Rows.lawS5800AWholeSpec.post enc Ybad.prog Ybad.f3 false true false false) := by
  refine returnsInHanded_of_change_and (C := Ybad.checked) (X := fun w _ => laidMetH Ybad.prog [("io.EOF", Rows.laid_io_EOF)] w) (fun _ _ _ hh h => h.of_heap hh) lawOwn started (by kernel_rfl) Ybad.func3
    (ChangeSpec.witness_shaped (enc := enc) (C := Ybad.checked) (os := os) (X := fun w _ => laidMetH Ybad.prog [("io.EOF", Rows.laid_io_EOF)] w) false (World.laidAll Ybad.prog os [("io.EOF", Rows.laid_io_EOF)]) #[.slice none 0 0, .int .i64 0, .int .u8 0] 8 (World.laidAll_os _ _ _)
      (World.shaped_of_ZipB (by kernel_rfl) (by kernel_rfl)) (by kernel_rfl) (by kernel_rfl) (by kernel_rfl)
      (by rw [MakeChecks.laidMetH_plain _ _ _ (by kernel_rfl)]; exact laidMet_laidAll _ (by kernel_rfl) (by kernel_rfl))) ?_
  intro W base args ds gs before hval0 hW _ _ hL0 _
  have hL : laidMet Ybad.prog [("io.EOF", Rows.laid_io_EOF)] W := by
    have h := hL0
    rw [MakeChecks.laidMetH_plain _ _ _ (by kernel_rfl)] at h
    exact h
  have hval : ∀ (j : Nat) t v, Ybad.f3.params[j]? = some t → args[j]? = some v → Value.okWide Ybad.prog W .any base t v := hval0
  have hW' := hW
  obtain ⟨p, q, hA0, hV, rfl, hfz, hnd⟩ := hW
  have hA : DataW.TrodAll enc Ybad.prog W 0 (fun _ => true) true Ybad.f3.params.toList args.toList ds p := hA0
  rw [Ybad.params3] at hA hval
  obtain ⟨v0, vs0, d0, ds0, p0, q0, hargs, rfl, rfl, h0, r0⟩ := trodAll_cons hA
  obtain ⟨v1, vs1, d1, ds1, p1, q1, rfl, rfl, rfl, h1, r1⟩ := trodAll_cons r0
  obtain ⟨v2, vs2, d2, ds2, p2, q2, rfl, rfl, rfl, h2, r2⟩ := trodAll_cons r1
  obtain ⟨rfl, rfl, rfl⟩ := trodAll_nil r2
  obtain rfl : args = #[v0, v1, v2] := by cases args; simp_all
  obtain ⟨rfl, rfl⟩ := trodVars_none hV
  obtain ⟨a0, len0, cap0, rfl⟩ := okWide_slice Ybad.underlying22 (hval 0 22 v0 rfl rfl)
  have k0 := h0
  have lt0 : ∀ x ∈ p0, x.block < W.heap.size := by obtain ⟨m, hm⟩ := k0; exact DataW.trod_lt m _ _ _ hm
  obtain ⟨z0, w0⟩ : ∃ zs, IsRow .u8 W a0 len0 cap0 zs := by
    obtain ⟨fuel, hf⟩ := h0
    rcases open_ints Ybad.underlying22 Ybad.underlying5 (by kernel_rfl) hf with ⟨hcs, _⟩ | ⟨x, l, c, zs, hcs, _, hl, hm, hz, _, hcell, hwz⟩
    · simp [Value.cells] at hcs
      obtain ⟨rfl, rfl, rfl⟩ := hcs
      exact ⟨[], .inl ⟨rfl, rfl, rfl, rfl⟩⟩
    · simp [Value.cells] at hcs
      obtain ⟨rfl, rfl, rfl⟩ := hcs
      exact ⟨zs, .inr ⟨_, rfl, hl, hm, by simpa using hz, hcell, hwz⟩⟩
  obtain ⟨size, rfl, rfl, rfl, wsz⟩ := open_int Ybad.underlying3 (hval 1 3 v1 rfl rfl) h1
  obtain ⟨mode, rfl, rfl, rfl, wmo⟩ := open_int Ybad.underlying5 (hval 2 5 v2 rfl rfl) h2
  clear hA0 hval0
  refine (walk a0 len0 cap0 z0 size mode W w0 wmo hL).mono fun e W' ⟨he, bel⟩ => ?_
  subst he
  exact ⟨_, rfl, _, _, _, [], _, [], hW', trodAll_mk1 (shut_bool Ybad.underlying4 _), (trodAll_cons_mk (Below.trod lawLaidOut (by kernel_rfl) (of_decide_eq_true (by kernel_rfl)) k0 bel lt0) (trodAll_cons_mk (shut_int Ybad.underlying3 wsz) (trodAll_cons_mk (shut_int Ybad.underlying5 wmo) trodAll_mk0))), rfl, bel.frame _, fun h => by cases h⟩

theorem rowHolds : Rows.LawS5800AWholeSaid :=
  OpenClaim.holds_of_wide 3 Ybad.f3 rfl rfl rfl rfl rfl rfl rfl ⟨rfl, rfl, rfl, rfl, rfl⟩ rfl rfl rfl rfl rfl (by kernel_rfl) Ybad.func3 (by kernel_rfl)
    (of_decide_eq_true (by kernel_rfl)) (by unfold Func.isWrapper; first | (rw [if_pos (by decide +kernel)]; kernel_rfl) | (rw [if_neg (by decide +kernel)]; exact ⟨rfl, rfl⟩))
    (fun os started H enc _ => lifted os started H enc)

/-- The statement. -/
theorem lawS5800AWhole_card : Rows.LawS5800AWholeCardSaid :=
  Claim7.holds_tied_plain_at .later [] [.sentinel] true (true, "a3fc5c8e05daf2a6d8cd5ac634c206be830a9f00e2eb1fa420ed228d4b8b95ec") true
    rowHolds (fun _ h => by cases h) (by kernel_rfl) (fun _ h => by cases h) lawS5800AWhole_row_tie rfl ⟨rfl, rfl⟩ (by kernel_rfl) rfl
    (fun f fn hf hfn => by
      obtain rfl : f = 3 := Option.some.inj ((show Ybad.prog.funcNamed "example.com/leafline/leafline.LawS5800AWhole" = some 3 by kernel_rfl).symm.trans hf) |>.symm
      obtain rfl : fn = Ybad.f3 := (Option.some.inj (Ybad.func3.symm.trans hfn)).symm
      exact ⟨by kernel_rfl, fun j t ht => by
        rw [Ybad.params3] at ht
        rcases j with _ | _ | _ | j
        · obtain rfl : t = 22 := by simpa using ht.symm
          exact (show Ybad.prog.wantsStandIn 22 = false by kernel_rfl)
        · obtain rfl : t = 3 := by simpa using ht.symm
          exact (show Ybad.prog.wantsStandIn 3 = false by kernel_rfl)
        · obtain rfl : t = 5 := by simpa using ht.symm
          exact (show Ybad.prog.wantsStandIn 5 = false by kernel_rfl)
        · simp at ht⟩)
    (by kernel_rfl)
end Go.Proofs.YbulkdpccDoor
