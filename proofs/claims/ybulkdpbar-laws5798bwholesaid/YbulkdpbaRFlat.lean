/-
  Seat b5798a: 'zzs5798bflat' by its contract. By an AI agent.
-/
import Derived.Test.YbulkdpbaRSmall
namespace Go.Proofs.YbulkdpbaR
open Go.RowKit

/-- The slice v holds, in w, the numbers cs, below block B. -/
def IntSlice (w : World) (B : Nat) (v : Value) (cs : List Nat) : Prop :=
  (v = .slice none 0 0 ∧ cs = []) ∨ ∃ g cap, g < B ∧ v = .slice (some ⟨g, 0, none⟩) cs.length cap ∧ ∀ j, j < cs.length → w.cell? ⟨g, j, none⟩ = some (.int .i64 (cs.getD j 0 : Nat))

/-- The two tables that 'flat' reads, below block B. -/
structure KidsOK (w : World) (B n bk bq : Nat) (kd : Nat → Int) (ch : Nat → List Nat) : Prop where
  hlt : ∀ i, i < n → ∀ c, c ∈ ch i → i < c ∧ c < n
  hfew : ∀ i, i < n → (ch i).length ≤ 2000
  hn : n ≤ 2000
  hbk : bk < B
  hbq : bq < B
  hkd : ∀ i, i < n → w.cell? ⟨bq, i, none⟩ = some (.int .i64 (kd i))
  hch : ∀ i, i < n → ∃ v, w.cell? ⟨bk, i, none⟩ = some v ∧ IntSlice w B v (ch i)

theorem Yba.info3 : (Yba.prog.info? 3).map (fun i => (i.zero, i.size, i.bytes)) = some (some (.int .i64 0), 1, 8) := by kernel_rfl

abbrev natVals (xs : List Nat) : List Value := xs.map (fun c : Nat => Value.int .i64 (c : Int))

theorem app_step {B : Nat} {w0 wr w1 : World} {o : Obj} {v v1 : Value} {ys : List Nat} {c : Nat} (hown : wr.ownsRow B 3 1 v ys.length (natVals ys)) (hown1 : w1.ownsRow B 3 1 v1 (ys.length + 1) (natVals ys ++ [.int .i64 (c : Int)]))
    (hg : (wr.alloc o).grownBy w1 v.ownBlock) (hbel : Below B w0 wr) (hB : B ≤ wr.heap.size) : w1.ownsRow B 3 1 v1 (ys ++ [c]).length (natVals (ys ++ [c])) ∧ Below B w0 w1 ∧ B ≤ w1.heap.size := by
  refine ⟨by simpa [natVals] using hown1, ?_, ?_⟩
  · exact (hbel.alloc hB o).grown hg (by simp; omega) (fun k hk => (hown.lt k hk).1)
  · have := hg.size; simp at this; omega

set_option maxRecDepth 20000 in
set_option maxHeartbeats 1000000 in
theorem flat_any (w0 : World) (B n bk bq : Nat) (kd : Nat → Int) (ch : Nat → List Nat) (ok : KidsOK w0 B n bk bq kd ch) (f : Nat) :
    ∀ (i : Nat) (v : Value) (xs : List Nat) (w : World), i < n → n ≤ i + f → Below B w0 w → B ≤ w.heap.size → w.ownsRow B 3 1 v xs.length (natVals xs) →
      xs.length + (Pl.flatF (keepB kd) (downB kd) ch f i).length ≤ 100000 →
      Calls Yba.prog 6 #[.slice (some ⟨bk, 0, none⟩) n n, .slice (some ⟨bq, 0, none⟩) n n, .int .i64 i, v] w fun e w' =>
        ∃ v', e = .returned v' ∧ w'.ownsRow B 3 1 v' (xs ++ Pl.flatF (keepB kd) (downB kd) ch f i).length (natVals (xs ++ Pl.flatF (keepB kd) (downB kd) ch f i)) ∧ Below B w0 w' ∧ B ≤ w'.heap.size := by
  induction f with
  | zero => intro i v xs w h1 h2; omega
  | succ f ih =>
    intro i v xs w hi hf hbel hB hown hlen
    obtain ⟨u, hu0, hsl⟩ := ok.hch i hi
    have hu : w.cell? ⟨bk, i, none⟩ = some u := (hbel.cell (by exact ok.hbk)).trans hu0
    clear hu0
    have hlt := ok.hlt i hi
    have hfew := ok.hfew i hi
    have hn := ok.hn
    have hinI : (i : Int) < (n : Int) := by omega
    have IH := hide ih
    clear ih
    rcases hsl with ⟨rfl, hnil⟩ | ⟨g, cap, hgB, rfl, hcs⟩
    · have HN : Hid (ch i = []) := hnil
      have HL := hide hlen
      have HO := hide hown
      have HB := hide hbel
      clear hnil hlt hfew hlen hown hbel
      go_enter Yba.func6, Yba.ntmps6
      go_wp2_with fail
      refine wp_loop_rounds 1 ?_
      rw [rounds_succ]
      go_wp2_with fail
      go_ret
      have e : Pl.flatF (keepB kd) (downB kd) ch (f + 1) i = [] := by simp only [Pl.flatF, HN.out, Pl.flatL]
      rw [e, List.append_nil]
      exact ⟨v, rfl, HO.out, HB.out, hB⟩
    · have hkd0 := ok.hkd
      have hbq := ok.hbq
      clear ok
      generalize hcl : ch i = cs at *
      have HC : Hid (ch i = cs) := hcl
      clear hcl
      generalize hrec : Pl.flatF (keepB kd) (downB kd) ch f = rec at *
      have HR : Hid (Pl.flatF (keepB kd) (downB kd) ch f = rec) := hrec
      clear hrec
      have heq : Pl.flatF (keepB kd) (downB kd) ch (f + 1) i = Pl.flatL (keepB kd) (downB kd) rec cs := by
        show Pl.flatL _ _ (Pl.flatF _ _ ch f) (ch i) = _; rw [HR.out, HC.out]
      rw [heq] at hlen
      rw [heq]
      clear heq
      generalize hres : xs ++ Pl.flatL (keepB kd) (downB kd) rec cs = res
      have hrl : res.length ≤ 100000 := by rw [← hres, List.length_append]; exact hlen
      have HF := hide hres
      clear hres hlen
      obtain ⟨i0, hi0, hz0, hz1, hz2⟩ := info_parts Yba.info3
      go_enter Yba.func6, Yba.ntmps6
      go_wp2_with fail
      go_loopw [3, 16] (fun v t wr => ∃ k : Nat, ∃ ys : List Nat, k ≤ cs.length ∧ t = .int .i64 k ∧ wr.ownsRow B 3 1 v ys.length (natVals ys) ∧ Below B w0 wr ∧ B ≤ wr.heap.size ∧ Hid (ys ++ Pl.flatL (keepB kd) (downB kd) rec (cs.drop k) = res)) (fun _ t _ => cs.length - (intOf t).toNat)
      case atStart => exact ⟨0, xs, Nat.zero_le _, rfl, hown, hbel, hB, HF⟩
      case round =>
        obtain ⟨k, ys, hk, rfl, hown, hbel, hB, HD⟩ := hrel
        by_cases hkl : k < cs.length
        · have hck0 := hcs k hkl
          have hck : wr.cell? ⟨g, k, none⟩ = some (.int .i64 (cs.getD k 0 : Nat)) := (hbel.cell (by exact hgB)).trans hck0
          have hmem : cs.getD k 0 ∈ cs := by simp [List.getD, hkl]
          obtain ⟨hc1, hc2⟩ := hlt _ hmem
          have e1 : ∀ W, Below B w0 W → W.cell? ⟨bq, cs.getD k 0, none⟩ = some (.int .i64 (kd (cs.getD k 0))) := fun W h => (h.cell (by exact hbq)).trans (hkd0 _ hc2)
          have ihc := IH.out (cs.getD k 0)
          have hdrop : cs.drop k = cs.getD k 0 :: cs.drop (k + 1) := by rw [List.drop_eq_getElem_cons hkl]; simp [List.getD, hkl]
          have HE : Hid (ys ++ Pl.flatL (keepB kd) (downB kd) rec (cs.getD k 0 :: cs.drop (k + 1)) = res) := by rw [← hdrop]; exact HD
          clear hck0 hdrop hmem hlt hkd0 hcs IH HF HD HC HR
          generalize cs.getD k 0 = c at *
          have IHC := hide ihc
          have E1 := hide e1
          have E1w := e1 wr hbel
          have hcnI : (c : Int) < (n : Int) := by omega
          clear ihc e1
          by_cases hdn : downB kd c = true
          · rcases kind_ways hdn with ⟨b1, b5, b6⟩ | ⟨b1, b5⟩
            · have hek : ys ++ (rec c ++ Pl.flatL (keepB kd) (downB kd) rec (cs.drop (k + 1))) = res := by
                rw [← HE.out]; simp only [Pl.flatL, keepB, b1, hdn]; simp
              have hyl : ys.length + (rec c).length ≤ 100000 := by have := hrl; rw [← hek] at this; simp only [List.length_append] at this; omega
              have HK := hide hek
              clear hek HE hdn
              go_wp2_with fail
              refine ((unhide IHC) _ ys wr hc2 (by omega) hbel hB hown hyl).mono ?_
              rintro e w2 ⟨v2, rfl, hown2, hbel2, hB2⟩
              go_wp2_with fail
              go_roundw
              case rel => exact ⟨k + 1, ys ++ rec c, by omega, by go_num, hown2, hbel2, hB2, by rw [Hid, List.append_assoc]; exact HK⟩
              case measure => simp [intOf]; omega
            · have hek : (ys ++ [c] ++ rec c) ++ Pl.flatL (keepB kd) (downB kd) rec (cs.drop (k + 1)) = res := by
                rw [← HE.out]; simp only [Pl.flatL, keepB, b1, hdn]; simp
              have hyl : (ys ++ [c]).length + (rec c).length ≤ 100000 := by have := hrl; rw [← hek] at this; simp only [List.length_append] at this ⊢; omega
              have HK := hide hek
              clear hek HE hdn
              go_wp2_with (at_builtin; refine wpList_append_own _ rfl _ _ 34 rfl B 3 i0 (.int .i64 0) 1 8 Yba.underlying34 hi0 hz0 hz1 hz2 rfl (by decide) _ _ _ rfl (hown.alloc _) ⟨wr.heap.size, 0, none⟩ 1 1 [.int .i64 c] rfl rfl ?c1 ?c2 ?c3 ?c4 ?c5 ?_)
              case c1 => exact cell_one_new _ _ _
              case c2 => intro u hu; simp at hu; subst hu; rfl
              case c3 => simp only [List.length_append, List.length_singleton] at hyl; unfold maxLen; omega
              case c4 => simp only [List.length_append, List.length_singleton] at hyl; omega
              case c5 => simp; omega
              intro v1 w1 hown1 hg1 _
              obtain ⟨ho, hb1, hB1⟩ := app_step hown hown1 hg1 hbel hB
              have E2 := (unhide E1) w1 hb1
              clear hown hown1 hg1 hbel hB E1w hck
              go_wp2_with fail
              refine ((unhide IHC) _ (ys ++ [c]) w1 hc2 (by omega) hb1 hB1 ho hyl).mono ?_
              rintro e w2 ⟨v2, rfl, hown2, hbel2, hB2⟩
              go_wp2_with fail
              go_roundw
              case rel => exact ⟨k + 1, ys ++ [c] ++ rec c, by omega, by go_num, hown2, hbel2, hB2, HK⟩
              case measure => simp [intOf]; omega
          · have hdf : downB kd c = false := by simpa using hdn
            obtain ⟨b1, b5, b6⟩ := kind_no hdf
            have hek : (ys ++ [c]) ++ Pl.flatL (keepB kd) (downB kd) rec (cs.drop (k + 1)) = res := by
              rw [← HE.out]; simp only [Pl.flatL, keepB, b1, hdf]; simp
            have hyl : (ys ++ [c]).length ≤ 100000 := by have := hrl; rw [← hek] at this; simp only [List.length_append] at this ⊢; omega
            have HK := hide hek
            clear hek HE hdn hdf
            go_wp2_with (at_builtin; refine wpList_append_own _ rfl _ _ 34 rfl B 3 i0 (.int .i64 0) 1 8 Yba.underlying34 hi0 hz0 hz1 hz2 rfl (by decide) _ _ _ rfl (hown.alloc _) ⟨wr.heap.size, 0, none⟩ 1 1 [.int .i64 c] rfl rfl ?d1 ?d2 ?d3 ?d4 ?d5 ?_)
            case d1 => exact cell_one_new _ _ _
            case d2 => intro u hu; simp at hu; subst hu; rfl
            case d3 => simp only [List.length_append, List.length_singleton] at hyl; unfold maxLen; omega
            case d4 => simp only [List.length_append, List.length_singleton] at hyl; omega
            case d5 => simp; omega
            intro v1 w1 hown1 hg1 _
            obtain ⟨ho, hb1, hB1⟩ := app_step hown hown1 hg1 hbel hB
            have E2 := (unhide E1) w1 hb1
            clear hown hown1 hg1 hbel hB E1w hck
            go_wp2_with fail
            go_roundw
            case rel => exact ⟨k + 1, ys ++ [c], by omega, by go_num, ho, hb1, hB1, HK⟩
            case measure => simp [intOf]; omega
        · go_wp2_with fail
          go_ret
          have e : ys = res := by rw [← HD.out, List.drop_of_length_le (by omega)]; simp [Pl.flatL]
          rw [← e]
          exact ⟨_, rfl, hown, hbel, hB⟩

end Go.Proofs.YbulkdpbaR
