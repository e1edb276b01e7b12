/-
  Seat b5798a: the small callees' contracts, and 'named'. By an AI agent.
-/
import Derived.Test.YbulkdpbaRRows
import Derived.Test.YbulkdpbaRPlain
import Derived.WalkKit
import Derived.WalkSpells
import Derived.WalkLawsBesides
import Derived.BigQuiet
import Derived.Deep.QuietTactic
import Derived.Deep.LoopGhost
import Derived.LaidEqlPtr
namespace Go.Proofs.YbulkdpbaR
open Go.RowKit

def kindOf (k : Int) : Int := if (k % 5 == 0) = true then 1 else if (k % 5 == 1) = true then 3 else if (k % 5 == 2) = true then 5 else if (k % 5 == 3) = true then 6 else 2
def nameOf (k : Int) : ByteArray := if (k % 3 == 0) = true then ⟨#[97]⟩ else if (k % 3 == 1) = true then ⟨#[98]⟩ else ⟨#[99]⟩

theorem hide {p : Prop} (h : p) : Hid p := h
theorem unhide {p : Prop} (h : Hid p) : p := h
theorem ret_int {k : IntKind} {a b : Int} (h : a = b) : Ending.returned (.int k a) = .returned (.int k b) := by rw [h]
theorem ret_str {a b : ByteArray} (h : a = b) : Ending.returned (.string a) = .returned (.string b) := by rw [h]

set_option maxHeartbeats 400000 in
theorem kind_any (k : Int) (w : World) (h0 : 0 ≤ k) (h1 : k ≤ 255) :
    Calls Yba.prog 4 #[.int .u8 k] w fun e w' => e = .returned (.int .i64 (kindOf k)) ∧ w' = w := by
  go_enter Yba.func4, Yba.ntmps4
  go_wp2
  all_goals (go_ret; exact ⟨ret_int (by simp only [kindOf, *]; rfl), rfl⟩)

set_option maxHeartbeats 400000 in
theorem name_any (k : Int) (w : World) (h0 : 0 ≤ k) (h1 : k ≤ 255) :
    Calls Yba.prog 5 #[.int .u8 k] w fun e w' => e = .returned (.string (nameOf k)) ∧ w' = w := by
  go_enter Yba.func5, Yba.ntmps5
  go_wp2
  all_goals (go_ret; exact ⟨ret_str (by simp only [nameOf, *]; rfl), rfl⟩)

/-- The slice v holds, in w, the pointers to the nodes cs. -/
def PtrSlice (w : World) (nb : Nat → Nat) (v : Value) (cs : List Nat) : Prop :=
  (v = .slice none 0 0 ∧ cs = []) ∨ ∃ g cap, v = .slice (some ⟨g, 0, none⟩) cs.length cap ∧ ∀ j, j < cs.length → w.cell? ⟨g, j, none⟩ = some (.pointer (some ⟨nb (cs.getD j 0), 0, none⟩))

/-- The nodes 0 .. n-1, as 'named' reads them. -/
structure NodesOK (w : World) (n : Nat) (nb : Nat → Nat) (kd : Nat → Int) (nm : Nat → ByteArray) (md : Nat → Option Addr) (ch : Nat → List Nat) : Prop where
  hlt : ∀ i, i < n → ∀ c, c ∈ ch i → i < c ∧ c < n
  hkd : ∀ i, i < n → w.cell? ⟨nb i, 0, none⟩ = some (.int .i64 (kd i))
  hnm : ∀ i, i < n → w.cell? ⟨nb i, 1, none⟩ = some (.string (nm i))
  hmd : ∀ i, i < n → w.cell? ⟨nb i, 2, none⟩ = some (.pointer (md i))
  hch : ∀ i, i < n → ∃ v, w.cell? ⟨nb i, 6, none⟩ = some v ∧ PtrSlice w nb v (ch i)
  hfew : ∀ i, i < n → (ch i).length ≤ 2000

def ptrOf (nb : Nat → Nat) : Option Nat → Value
  | none => .pointer none
  | some c => .pointer (some ⟨nb c, 0, none⟩)

def downB (kd : Nat → Int) (c : Nat) : Bool := (kd c == 5) || (kd c == 6)
def keepB (kd : Nat → Int) (c : Nat) : Bool := kd c != 6

def hitB (kd : Nat → Int) (nm : Nat → ByteArray) (mb : Nat → Bool) (q : ByteArray) (c : Nat) : Bool := keepB kd c && (mb c && (nm c).toList == q.toList)

theorem hit_of {kd : Nat → Int} {nm : Nat → ByteArray} {mb : Nat → Bool} {q : ByteArray} {c : Nat} (h1 : (kd c != 6) = true) (h2 : mb c = true) (h3 : ((nm c).toList == q.toList) = true) : hitB kd nm mb q c = true := by
  simp only [hitB, keepB, h1, h2, h3]; rfl
theorem nohit_kind {kd : Nat → Int} {nm : Nat → ByteArray} {mb : Nat → Bool} {q : ByteArray} {c : Nat} (h1 : (kd c != 6) = false) : hitB kd nm mb q c = false := by
  simp only [hitB, keepB, h1]; rfl
theorem nohit_mod {kd : Nat → Int} {nm : Nat → ByteArray} {mb : Nat → Bool} {q : ByteArray} {c : Nat} (h2 : mb c = false) : hitB kd nm mb q c = false := by
  simp [hitB, h2]
theorem nohit_name {kd : Nat → Int} {nm : Nat → ByteArray} {mb : Nat → Bool} {q : ByteArray} {c : Nat} (h3 : ((nm c).toList == q.toList) = false) : hitB kd nm mb q c = false := by
  simp only [hitB, h3]; simp

theorem nohit_ways {kd : Nat → Int} {nm : Nat → ByteArray} {mb : Nat → Bool} {q : ByteArray} {c : Nat} (h : hitB kd nm mb q c = false) :
    (kd c != 6) = false ∨ ((kd c != 6) = true ∧ mb c = false) ∨ ((kd c != 6) = true ∧ mb c = true ∧ ((nm c).toList == q.toList) = false) := by
  simp only [hitB, keepB] at h
  cases h1 : (kd c != 6)
  · exact .inl rfl
  · cases h2 : mb c
    · exact .inr (.inl ⟨rfl, rfl⟩)
    · cases h3 : ((nm c).toList == q.toList)
      · exact .inr (.inr ⟨rfl, rfl, rfl⟩)
      · rw [h1, h2, h3] at h; cases h

theorem kind_ways {kd : Nat → Int} {c : Nat} (h : downB kd c = true) : ((kd c != 6) = false ∧ (kd c == 5) = false ∧ (kd c == 6) = true) ∨ ((kd c != 6) = true ∧ (kd c == 5) = true) := by
  simp only [downB, Bool.or_eq_true, beq_iff_eq] at h
  rcases h with h | h
  · exact .inr ⟨by simp [h], by simp [h]⟩
  · exact .inl ⟨by simp [h], by simp [h], by simp [h]⟩
theorem kind_no {kd : Nat → Int} {c : Nat} (h : downB kd c = false) : (kd c != 6) = true ∧ (kd c == 5) = false ∧ (kd c == 6) = false := by
  simp only [downB, Bool.or_eq_false_iff] at h
  exact ⟨by simp only [bne, h.2]; rfl, h.1, h.2⟩

theorem L_hit {hit down : Nat → Bool} {rec : Nat → Option Nat} {c : Nat} {cs : List Nat} (h : hit c = true) : Pl.namedL hit down rec (c :: cs) = some c := by simp [Pl.namedL, h]
theorem L_on {hit down : Nat → Bool} {rec : Nat → Option Nat} {c : Nat} {cs : List Nat} (h : hit c = false) (h2 : down c = false) : Pl.namedL hit down rec (c :: cs) = Pl.namedL hit down rec cs := by simp [Pl.namedL, h, h2]
theorem L_none {hit down : Nat → Bool} {rec : Nat → Option Nat} {c : Nat} {cs : List Nat} (h : hit c = false) (h2 : rec c = none) : Pl.namedL hit down rec (c :: cs) = Pl.namedL hit down rec cs := by
  simp only [Pl.namedL, h, h2]; simp
theorem L_some {hit down : Nat → Bool} {rec : Nat → Option Nat} {c r : Nat} {cs : List Nat} (h : hit c = false) (h1 : down c = true) (h2 : rec c = some r) : Pl.namedL hit down rec (c :: cs) = some r := by
  simp only [Pl.namedL, h, h1, h2]; simp

set_option maxRecDepth 20000 in
set_option maxHeartbeats 1000000 in
theorem named_any (n : Nat) (nb : Nat → Nat) (kd : Nat → Int) (nm : Nat → ByteArray) (md : Nat → Option Addr) (ch : Nat → List Nat) (ns : Option Addr) (q : ByteArray) (mb : Nat → Bool) (w : World)
    (ok : NodesOK w n nb kd nm md ch) (hm : ∀ c, c < n → (binOp .eql 23 (.pointer (md c)) (.pointer ns)).run Yba.prog w = .ok (.bool (mb c)) w) (f : Nat) :
    ∀ i, i < n → n ≤ i + f → Calls Yba.prog 7 #[.pointer (some ⟨nb i, 0, none⟩), .pointer ns, .string q] w fun e w' =>
      e = .returned (ptrOf nb (Pl.namedF (hitB kd nm mb q) (downB kd) ch f i)) ∧ w' = w := by
  induction f with
  | zero => intro i h1 h2; omega
  | succ f ih =>
    intro i hi hf
    obtain ⟨v, hv, hsl⟩ := ok.hch i hi
    have hlt := ok.hlt i hi
    have hfew := ok.hfew i hi
    have IH := hide ih
    clear ih
    rcases hsl with ⟨rfl, hnil⟩ | ⟨g, cap, rfl, hcs⟩
    · have HN : Hid (ch i = []) := hnil
      clear hnil hlt hfew hm
      go_enter Yba.func7, Yba.ntmps7
      go_wp2_with fail
      refine wp_loop_rounds 1 ?_
      rw [rounds_succ]
      go_wp2_with fail
      go_ret
      refine ⟨?_, rfl⟩
      simp only [Pl.namedF, HN.out, Pl.namedL]
      rfl
    · have hch := ok.hkd
      have hnm := ok.hnm
      have hmd := ok.hmd
      clear ok
      generalize hcl : ch i = cs at *
      have HC : Hid (ch i = cs) := hcl
      clear hcl
      generalize hrec : Pl.namedF (hitB kd nm mb q) (downB kd) ch f = rec at *
      have HR : Hid (Pl.namedF (hitB kd nm mb q) (downB kd) ch f = rec) := hrec
      clear hrec
      generalize hres : ptrOf nb (Pl.namedF (hitB kd nm mb q) (downB kd) ch (f + 1) i) = res
      have HF : Hid (ptrOf nb (Pl.namedL (hitB kd nm mb q) (downB kd) rec cs) = res) := by
        rw [← hres]; show _ = ptrOf nb (Pl.namedL _ _ (Pl.namedF _ _ ch f) (ch i)); rw [HR.out, HC.out]
      clear hres
      go_enter Yba.func7, Yba.ntmps7
      go_wp2_with fail
      go_loopw [15] (fun t wr => ∃ k : Nat, k ≤ cs.length ∧ t = .int .i64 k ∧ wr = w ∧ Hid (ptrOf nb (Pl.namedL (hitB kd nm mb q) (downB kd) rec (cs.drop k)) = res)) (fun t _ => cs.length - (intOf t).toNat)
      case atStart => exact ⟨0, Nat.zero_le _, rfl, rfl, HF⟩
      case round =>
        obtain ⟨k, hk, rfl, rfl, HD⟩ := hrel
        by_cases hkl : k < cs.length
        · have hck := hcs k hkl
          have hmem : cs.getD k 0 ∈ cs := by simp [List.getD, hkl]
          obtain ⟨hc1, hc2⟩ := hlt _ hmem
          have e1 := hch _ hc2
          have e2 := hnm _ hc2
          have e3 := hmd _ hc2
          have e4 := hm _ hc2
          have ihc := IH.out _ hc2 (by omega)
          have hdrop : cs.drop k = cs.getD k 0 :: cs.drop (k + 1) := by rw [List.drop_eq_getElem_cons hkl]; simp [List.getD, hkl]
          have HE : Hid (ptrOf nb (Pl.namedL (hitB kd nm mb q) (downB kd) rec (cs.getD k 0 :: cs.drop (k + 1))) = res) := by rw [← hdrop]; exact HD
          clear hdrop hmem hlt hch hnm hmd hm hcs IH HF HD HC HR
          generalize cs.getD k 0 = c at *
          by_cases hit : hitB kd nm mb q c = true
          · have hh := hit
            simp only [hitB, keepB, Bool.and_eq_true] at hh
            obtain ⟨b1, b2, b3⟩ := hh
            rw [b2] at e4
            have HX := hide (L_hit (down := downB kd) (rec := rec) (cs := cs.drop (k + 1)) hit)
            clear hit ihc b2
            go_wp2_with fail
            go_ret
            exact ⟨by rw [← HE.out, HX.out]; rfl, rfl⟩
          · have hitf : hitB kd nm mb q c = false := by simpa using hit
            have hw := nohit_ways hitf
            by_cases hdn : downB kd c = true
            · have hkw := kind_ways hdn
              cases hr : rec c with
              | none =>
                rw [hr] at ihc
                have HX := hide ((congrArg (ptrOf nb) (L_none (down := downB kd) (cs := cs.drop (k + 1)) hitf hr)).symm.trans HE.out)
                have IHC := hide ihc
                clear ihc HE hit hitf hdn hr
                rcases hkw with ⟨b1, b5, b6⟩ | ⟨b1, b5⟩
                · clear hw
                  go_wp2_with (go_at_call 7; refine (unhide IHC).mono ?_; rintro e w' ⟨rfl, rfl⟩; simp only [ptrOf])
                  go_roundw
                  case rel => exact ⟨k + 1, by omega, by go_num, trivial, HX⟩
                  case measure => simp [intOf]; omega
                · rcases hw with hw | ⟨_, hmb⟩ | ⟨_, hmb, hnq⟩
                  · rw [hw] at b1; cases b1
                  · rw [hmb] at e4
                    clear hmb
                    go_wp2_with (go_at_call 7; refine (unhide IHC).mono ?_; rintro e w' ⟨rfl, rfl⟩; simp only [ptrOf])
                    go_roundw
                    case rel => exact ⟨k + 1, by omega, by go_num, trivial, HX⟩
                    case measure => simp [intOf]; omega
                  · rw [hmb] at e4
                    clear hmb
                    go_wp2_with (go_at_call 7; refine (unhide IHC).mono ?_; rintro e w' ⟨rfl, rfl⟩; simp only [ptrOf])
                    go_roundw
                    case rel => exact ⟨k + 1, by omega, by go_num, trivial, HX⟩
                    case measure => simp [intOf]; omega
              | some r =>
                rw [hr] at ihc
                have HX := hide ((congrArg (ptrOf nb) (L_some (cs := cs.drop (k + 1)) hitf hdn hr)).symm.trans HE.out)
                have IHC := hide ihc
                clear ihc HE hit hitf hdn hr
                rcases hkw with ⟨b1, b5, b6⟩ | ⟨b1, b5⟩
                · clear hw
                  go_wp2_with (go_at_call 7; refine (unhide IHC).mono ?_; rintro e w' ⟨rfl, rfl⟩; simp only [ptrOf])
                  go_ret
                  exact ⟨by rw [← HX.out]; rfl, rfl⟩
                · rcases hw with hw | ⟨_, hmb⟩ | ⟨_, hmb, hnq⟩
                  · rw [hw] at b1; cases b1
                  · rw [hmb] at e4
                    clear hmb
                    go_wp2_with (go_at_call 7; refine (unhide IHC).mono ?_; rintro e w' ⟨rfl, rfl⟩; simp only [ptrOf])
                    go_ret
                    exact ⟨by rw [← HX.out]; rfl, rfl⟩
                  · rw [hmb] at e4
                    clear hmb
                    go_wp2_with (go_at_call 7; refine (unhide IHC).mono ?_; rintro e w' ⟨rfl, rfl⟩; simp only [ptrOf])
                    go_ret
                    exact ⟨by rw [← HX.out]; rfl, rfl⟩
            · have hdf : downB kd c = false := by simpa using hdn
              obtain ⟨b1, b5, b6⟩ := kind_no hdf
              have HX := hide ((congrArg (ptrOf nb) (L_on (rec := rec) (cs := cs.drop (k + 1)) hitf hdf)).symm.trans HE.out)
              clear ihc HE hit hitf hdn hdf
              rcases hw with hw | ⟨_, hmb⟩ | ⟨_, hmb, hnq⟩
              · rw [hw] at b1; cases b1
              · rw [hmb] at e4
                clear hmb
                go_wp2_with fail
                go_roundw
                case rel => exact ⟨k + 1, by omega, by go_num, trivial, HX⟩
                case measure => simp [intOf]; omega
              · rw [hmb] at e4
                clear hmb
                go_wp2_with fail
                go_roundw
                case rel => exact ⟨k + 1, by omega, by go_num, trivial, HX⟩
                case measure => simp [intOf]; omega
        · go_wp2_with fail
          go_ret
          refine ⟨?_, rfl⟩
          rw [← HD.out, List.drop_of_length_le (by omega)]; rfl

end Go.Proofs.YbulkdpbaR
