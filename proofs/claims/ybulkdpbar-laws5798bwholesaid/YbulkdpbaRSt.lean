/-
  Seat b5798a: the state of memory while the tree is built, and what each step makes of it. No walk here. By an AI agent.
-/
import Derived.Test.YbulkdpbaRFlat
import Derived.Deep.OwnRows
import Derived.Deep.AppendLies
namespace Go.Proofs.YbulkdpbaR
open Go.RowKit

abbrev ptrVals (nb : Nat → Nat) (xs : List Nat) : List Value := xs.map (fun c : Nat => Value.pointer (some ⟨nb c, 0, none⟩))

def modP (m0 m1 : Nat) (i : Nat) : Option Addr := if i = 0 then some ⟨m0, 0, none⟩ else if i = 1 then some ⟨m1, 0, none⟩ else none
abbrev modAt (m0 m1 : Nat) (i : Nat) : Value := .pointer (modP m0 m1 i)

def tyOf (r : Nat) : TypeId := if r = 0 then 36 else if r = 1 then 37 else if r = 2 then 9 else if r = 3 then 3 else 34

/-- k nodes stand; table r (0 nodes, 1 kinds, 2 names, 3 modIdx, 4 kids) holds F r; node i holds nf i; its children are cc i; kids[i] lists ck i. -/
structure St (w0 w : World) (m0 m1 bm : Nat) (tb : Nat → Nat) (B n k : Nat) (F : Nat → Nat → Value) (nb : Nat → Nat) (nf : Nat → Nat → Value) (cc ck : Nat → List Nat) : Prop where
  bel : Below w0.heap.size w0 w
  lo0 : w0.heap.size ≤ m0
  lo1 : m0 < m1
  lo2 : m1 < bm
  lo3 : ∀ r, r < 5 → bm < tb r ∧ tb r < B
  inj : ∀ r s, r < 5 → s < 5 → tb r = tb s → r = s
  size : B ≤ w.heap.size
  mod0 : ∃ c, w.heap[m0]? = some (.cells c 30 (0, 0))
  mod1 : ∃ c, w.heap[m1]? = some (.cells c 30 (0, 0))
  mods : w.rowIs bm 23 3 (modAt m0 m1)
  rows : ∀ r, r < 5 → w.rowIs (tb r) (tyOf r) n (F r)
  nd : ∀ i, i < k → w.rowIs (nb i) 45 22 (nf i)
  nbB : ∀ i, i < k → B ≤ nb i
  nbI : ∀ i j, i < k → j < k → nb i = nb j → i = j
  oc : ∀ i, i < k → w.ownsRow B 36 1 (nf i 6) (cc i).length (ptrVals nb (cc i))
  ok : ∀ i, i < n → w.ownsRow B 3 1 (F 4 i) (ck i).length (natVals (ck i))
  dc : ∀ i j, i < k → j < k → i ≠ j → (nf i 6).ownBlock = none ∨ (nf i 6).ownBlock ≠ (nf j 6).ownBlock
  dk : ∀ i j, i < n → j < n → i ≠ j → (F 4 i).ownBlock = none ∨ (F 4 i).ownBlock ≠ (F 4 j).ownBlock
  few : ∀ i, i < k → ∀ c ∈ cc i, c < k

theorem rowIs_grown {w w' : World} {row : Option Nat} (hg : w.grownBy w' row) {b : Nat} {t : TypeId} {n : Nat} {f : Nat → Value} (h : w.rowIs b t n f) (hne : some b ≠ row) : w'.rowIs b t n f :=
  h.of_block (hg.block b h.lt hne)

theorem blk_grown {w w' : World} {row : Option Nat} (hg : w.grownBy w' row) {b : Nat} (h : ∃ c, w.heap[b]? = some (.cells c 30 (0, 0))) (hne : some b ≠ row) : ∃ c, w'.heap[b]? = some (.cells c 30 (0, 0)) := by
  obtain ⟨c, hc⟩ := h
  exact ⟨c, (hg.block b (lt_of_block hc) hne).trans hc⟩

/-- An owned row's block, by its element type. -/
theorem own_block {w : World} {base : Nat} {e : TypeId} {v : Value} {n : Nat} {xs : List Value} (h : w.ownsRow base e 1 v n xs) {g : Nat} (hv : v.ownBlock = some g) : ∃ cur, w.heap[g]? = some (.cells cur e (0, 0)) := by
  rcases h.2 with ⟨rfl, _⟩ | ⟨g', cap, cur, rfl, _, hg, _⟩
  · simp [Value.ownBlock] at hv
  · simp [Value.ownBlock] at hv
    subst hv
    exact ⟨cur, hg⟩

theorem row_type {w : World} {b : Nat} {t : TypeId} {n : Nat} {f : Nat → Value} (h : w.rowIs b t n f) : ∃ cur, w.heap[b]? = some (.cells cur t (0, 0)) := by
  obtain ⟨c, hc, _⟩ := h
  exact ⟨c, hc⟩

theorem type_ne {w : World} {b g : Nat} {t e : TypeId} (hb : ∃ cur, w.heap[b]? = some (.cells cur t (0, 0))) (hg : ∃ cur, w.heap[g]? = some (.cells cur e (0, 0))) (hne : t ≠ e) : b ≠ g := by
  rintro rfl
  obtain ⟨c, hc⟩ := hb
  obtain ⟨d, hd⟩ := hg
  rw [hc] at hd
  simp at hd
  exact hne hd.2

section
variable {w0 w w' : World} {m0 m1 bm : Nat} {tb : Nat → Nat} {B n k : Nat} {F : Nat → Nat → Value} {nb : Nat → Nat} {nf : Nat → Nat → Value} {cc ck : Nat → List Nat}

/-- New blocks, draws: nothing turns. -/
theorem St.grown (s : St w0 w m0 m1 bm tb B n k F nb nf cc ck) (hg : w.grownBy w' none) : St w0 w' m0 m1 bm tb B n k F nb nf cc ck where
  bel := s.bel.grown hg s.bel.size (by simp)
  lo0 := s.lo0
  lo1 := s.lo1
  lo2 := s.lo2
  lo3 := s.lo3
  inj := s.inj
  size := Nat.le_trans s.size hg.size
  mod0 := blk_grown hg s.mod0 (by simp)
  mod1 := blk_grown hg s.mod1 (by simp)
  mods := rowIs_grown hg s.mods (by simp)
  rows := fun r hr => rowIs_grown hg (s.rows r hr) (by simp)
  nd := fun i hi => rowIs_grown hg (s.nd i hi) (by simp)
  nbB := s.nbB
  nbI := s.nbI
  oc := fun i hi => (s.oc i hi).kept hg (by cases (nf i 6).ownBlock <;> simp)
  ok := fun i hi => (s.ok i hi).kept hg (by cases (F 4 i).ownBlock <;> simp)
  dc := s.dc
  dk := s.dk
  few := s.few

theorem St.alloc (s : St w0 w m0 m1 bm tb B n k F nb nf cc ck) (o : Obj) : St w0 (w.alloc o) m0 m1 bm tb B n k F nb nf cc ck := s.grown (World.grownBy_alloc w o none)
theorem St.drewN (s : St w0 w m0 m1 bm tb B n k F nb nf cc ck) (m : Nat) : St w0 (w.drewN m) m0 m1 bm tb B n k F nb nf cc ck := s.grown ⟨rfl, rfl, rfl, Nat.le_refl _, fun _ _ _ => rfl⟩
theorem St.drew (s : St w0 w m0 m1 bm tb B n k F nb nf cc ck) : St w0 w.drew m0 m1 bm tb B n k F nb nf cc ck := s.grown ⟨rfl, rfl, rfl, Nat.le_refl _, fun _ _ _ => rfl⟩

theorem grown_setCell (w : World) (b i : Nat) (v : Value) : w.grownBy (w.setCell ⟨b, i, none⟩ v) (some b) :=
  ⟨rfl, rfl, rfl, by simp [World.setCell], fun k _ hk => Deep.blk_setCell_other _ _ _ _ (fun e => hk (by simp [e]))⟩

/-- A store into a cell above B that is no cell of ours (a local box): nothing turns. -/
theorem St.far (s : St w0 w m0 m1 bm tb B n k F nb nf cc ck) (b i : Nat) (v : Value) {t : TypeId} (hb : ∃ cur, w.heap[b]? = some (.cells cur t (0, 0))) (hB : B ≤ b) (h1 : 45 ≠ t) (h2 : 36 ≠ t) (h3 : 3 ≠ t) :
    St w0 (w.setCell ⟨b, i, none⟩ v) m0 m1 bm tb B n k F nb nf cc ck := by
  have hg := grown_setCell w b i v
  have l3 := s.lo3
  have l0 := l3 0 (by omega)
  have := s.lo0; have := s.lo1; have := s.lo2
  exact {
    bel := s.bel.grown hg s.bel.size (by intro k hk; simp at hk; omega)
    lo0 := s.lo0
    lo1 := s.lo1
    lo2 := s.lo2
    lo3 := s.lo3
    inj := s.inj
    size := Nat.le_trans s.size hg.size
    mod0 := blk_grown hg s.mod0 (by simp; omega)
    mod1 := blk_grown hg s.mod1 (by simp; omega)
    mods := rowIs_grown hg s.mods (by simp; omega)
    rows := fun r hr => rowIs_grown hg (s.rows r hr) (by have := l3 r hr; simp; omega)
    nd := fun i hi => rowIs_grown hg (s.nd i hi) (by simp; exact type_ne (row_type (s.nd i hi)) hb h1)
    nbB := s.nbB
    nbI := s.nbI
    oc := fun i hi => (s.oc i hi).kept hg (by
      cases hv : (nf i 6).ownBlock with
      | none => simp
      | some g => right; simp; exact type_ne (own_block (s.oc i hi) hv) hb h2)
    ok := fun i hi => (s.ok i hi).kept hg (by
      cases hv : (F 4 i).ownBlock with
      | none => simp
      | some g => right; simp; exact type_ne (own_block (s.ok i hi) hv) hb h3)
    dc := s.dc
    dk := s.dk
    few := s.few }

/-- A store into table r, r < 4. -/
theorem St.set (s : St w0 w m0 m1 bm tb B n k F nb nf cc ck) (r : Nat) (hr : r < 4) (i : Nat) (v : Value) :
    St w0 (w.setCell ⟨tb r, i, none⟩ v) m0 m1 bm tb B n k (fun q j => if q = r then (if j = i then v else F r j) else F q j) nb nf cc ck := by
  have hg := grown_setCell w (tb r) i v
  have l3 := s.lo3
  have l0 := l3 r (by omega)
  have := s.lo0; have := s.lo1; have := s.lo2
  have h4 : (4 : Nat) ≠ r := by omega
  exact {
    bel := s.bel.grown hg s.bel.size (by intro k hk; simp at hk; omega)
    lo0 := s.lo0
    lo1 := s.lo1
    lo2 := s.lo2
    lo3 := s.lo3
    inj := s.inj
    size := Nat.le_trans s.size hg.size
    mod0 := blk_grown hg s.mod0 (by simp; omega)
    mod1 := blk_grown hg s.mod1 (by simp; omega)
    mods := rowIs_grown hg s.mods (by simp; omega)
    rows := fun q hq => by
      by_cases e : q = r
      · subst e
        have := (s.rows q hq).set i v
        simpa using this
      · have := rowIs_grown hg (s.rows q hq) (by simp; intro e2; exact e (s.inj q r hq (by omega) e2))
        simpa [e] using this
    nd := fun j hj => rowIs_grown hg (s.nd j hj) (by have := s.nbB j hj; simp; omega)
    nbB := s.nbB
    nbI := s.nbI
    oc := fun j hj => (s.oc j hj).kept hg (by
      cases hv : (nf j 6).ownBlock with
      | none => simp
      | some g => right; have := (s.oc j hj).lt g hv; simp; omega)
    ok := fun j hj => by
      simp only [if_neg h4]
      exact (s.ok j hj).kept hg (by
        cases hv : (F 4 j).ownBlock with
        | none => simp
        | some g => right; have := (s.ok j hj).lt g hv; simp; omega)
    dc := s.dc
    dk := by simp only [if_neg h4]; exact s.dk
    few := s.few }

/-- A new node. -/
theorem St.node (s : St w0 w m0 m1 bm tb B n k F nb nf cc ck) (c : Array Value) (f : Nat → Value) (hs : c.size = 22) (hc : ∀ i, i < 22 → c[i]? = some (f i)) (h6 : f 6 = .slice none 0 0) (hck : cc k = []) :
    St w0 (w.alloc (.cells c 45)) m0 m1 bm tb B n (k + 1) F (fun i => if i = k then w.heap.size else nb i) (fun i => if i = k then f else nf i) cc ck := by
  have s' := s.alloc (.cells c 45)
  have hlt : ∀ i, i < k → nb i < w.heap.size := fun i hi => (s.nd i hi).lt
  have hval : ∀ i, i < k → ptrVals (fun i => if i = k then w.heap.size else nb i) (cc i) = ptrVals nb (cc i) := by
    intro i hi
    apply List.map_congr_left
    intro x hx
    have := s.few i hi x hx
    simp [show x ≠ k by omega]
  exact {
    bel := s'.bel
    lo0 := s'.lo0
    lo1 := s'.lo1
    lo2 := s'.lo2
    lo3 := s'.lo3
    inj := s'.inj
    size := s'.size
    mod0 := s'.mod0
    mod1 := s'.mod1
    mods := s'.mods
    rows := s'.rows
    nd := fun i hi => by
      by_cases e : i = k
      · subst e
        have := World.rowIs_alloc w c 45 f (by rw [hs]; exact hc)
        rw [hs] at this
        simpa using this
      · have := s'.nd i (by omega)
        simpa [e] using this
    nbB := fun i hi => by
      by_cases e : i = k
      · simp [e]; exact s.size
      · simp [e]; exact s.nbB i (by omega)
    nbI := fun i j hi hj h => by
      by_cases e : i = k <;> by_cases e2 : j = k
      · omega
      · simp [e, e2] at h; have := hlt j (by omega); omega
      · simp [e, e2] at h; have := hlt i (by omega); omega
      · simp [e, e2] at h; exact s.nbI i j (by omega) (by omega) h
    oc := fun i hi => by
      by_cases e : i = k
      · subst e
        simp only [if_pos, h6, hck]
        exact World.ownsRow_nil _ _ _ _
      · rw [hval i (by omega)]
        have := s'.oc i (by omega)
        simpa [e] using this
    ok := s'.ok
    dc := fun i j hi hj h => by
      by_cases e : i = k
      · left; simp [e, h6, Value.ownBlock]
      · by_cases e2 : j = k
        · simp only [if_neg e, if_pos e2, h6]
          cases hv : (nf i 6).ownBlock with
          | none => left; rfl
          | some g => right; simp [Value.ownBlock]
        · simp only [if_neg e, if_neg e2]
          exact s.dc i j (by omega) (by omega) h
    dk := s'.dk
    few := fun i hi c hc => by
      by_cases e : i = k
      · subst e; rw [hck] at hc; simp at hc
      · have := s.few i (by omega) c hc; omega }

/-- A child appended to node p's list, and the list stored back. -/
theorem St.child {w1 : World} {v' : Value} {p x : Nat} (s : St w0 w m0 m1 bm tb B n k F nb nf cc ck) (hp : p < k) (hx : x < k)
    (hown : w1.ownsRow B 36 1 v' ((cc p).length + 1) (ptrVals nb (cc p) ++ [.pointer (some ⟨nb x, 0, none⟩)])) (hg : w.grownBy w1 (nf p 6).ownBlock)
    (hat : (nf p 6).ownBlock = v'.ownBlock ∨ v'.ownBlock = some w.heap.size) :
    St w0 (w1.setCell ⟨nb p, 6, none⟩ v') m0 m1 bm tb B n k F nb (fun i q => if i = p then (if q = 6 then v' else nf p q) else nf i q) (fun i => if i = p then cc p ++ [x] else cc i) ck := by
  have hg2 := grown_setCell w1 (nb p) 6 v'
  have l3 := s.lo3
  have l0 := l3 0 (by omega)
  have := s.lo0; have := s.lo1; have := s.lo2
  have hpB := s.nbB p hp
  have hrow : ∀ g, (nf p 6).ownBlock = some g → B ≤ g := fun g h => ((s.oc p hp).lt g h).1
  have hrowT : ∀ g, (nf p 6).ownBlock = some g → ∃ cur, w.heap[g]? = some (.cells cur 36 (0, 0)) := fun g h => own_block (s.oc p hp) h
  have ne1 : ∀ b, b < B → some b ≠ (nf p 6).ownBlock := fun b hb e => by have := hrow b e.symm; omega
  have ne2 : ∀ b t, (∃ cur, w.heap[b]? = some (.cells cur t (0, 0))) → t ≠ 36 → some b ≠ (nf p 6).ownBlock := fun b t hb ht e => type_ne hb (hrowT b e.symm) ht rfl
  have nbp : ∃ cur, w1.heap[nb p]? = some (.cells cur 45 (0, 0)) := row_type (rowIs_grown hg (s.nd p hp) (ne2 _ 45 (row_type (s.nd p hp)) (by decide)))
  have oc1 : ∀ i, i < k → i ≠ p → w1.ownsRow B 36 1 (nf i 6) (cc i).length (ptrVals nb (cc i)) := fun i hi e => (s.oc i hi).kept hg (s.dc i p hi hp e)
  have ok1 : ∀ i, i < n → w1.ownsRow B 3 1 (F 4 i) (ck i).length (natVals (ck i)) := fun i hi => (s.ok i hi).kept hg (by
    cases hv : (F 4 i).ownBlock with
    | none => simp
    | some g => right; exact ne2 g 3 (own_block (s.ok i hi) hv) (by decide))
  exact {
    bel := (s.bel.grown hg s.bel.size (fun k hk => by have := hrow k hk; omega)).grown hg2 (by have := s.bel.size; have := hg.size; omega) (by intro k hk; simp at hk; omega)
    lo0 := s.lo0
    lo1 := s.lo1
    lo2 := s.lo2
    lo3 := s.lo3
    inj := s.inj
    size := Nat.le_trans (Nat.le_trans s.size hg.size) hg2.size
    mod0 := blk_grown hg2 (blk_grown hg s.mod0 (ne1 _ (by omega))) (by simp; omega)
    mod1 := blk_grown hg2 (blk_grown hg s.mod1 (ne1 _ (by omega))) (by simp; omega)
    mods := rowIs_grown hg2 (rowIs_grown hg s.mods (ne1 _ (by omega))) (by simp; omega)
    rows := fun r hr => rowIs_grown hg2 (rowIs_grown hg (s.rows r hr) (ne1 _ (l3 r hr).2)) (by have := l3 r hr; simp; omega)
    nd := fun i hi => by
      have h1 := rowIs_grown hg (s.nd i hi) (ne2 _ 45 (row_type (s.nd i hi)) (by decide))
      by_cases e : i = p
      · subst e
        have := h1.set 6 v'
        simpa using this
      · have := rowIs_grown hg2 h1 (by simp; intro e2; exact e (s.nbI i p hi hp e2))
        simpa [e] using this
    nbB := s.nbB
    nbI := s.nbI
    oc := fun i hi => by
      by_cases e : i = p
      · subst e
        simp only [if_pos, List.length_append, List.length_singleton, ptrVals, List.map_append, List.map_cons, List.map_nil]
        exact hown.kept hg2 (by
          cases hv : v'.ownBlock with
          | none => simp
          | some g => right; simp; exact type_ne (own_block hown hv) nbp (by decide))
      · simp only [if_neg e]
        exact (oc1 i hi e).kept hg2 (by
          cases hv : (nf i 6).ownBlock with
          | none => simp
          | some g => right; simp; exact type_ne (own_block (oc1 i hi e) hv) nbp (by decide))
    ok := fun i hi => (ok1 i hi).kept hg2 (by
      cases hv : (F 4 i).ownBlock with
      | none => simp
      | some g => right; simp; exact type_ne (own_block (ok1 i hi) hv) nbp (by decide))
    dc := fun i j hi hj h => by
      by_cases e : i = p
      · subst e
        have hj' : j ≠ i := fun e => h e.symm
        simp only [if_pos, if_neg hj']
        rcases hat with hat | hat
        · rw [← hat]; exact s.dc i j hi hj h
        · right; rw [hat]; intro e3; have := ((s.oc j hj).lt _ e3.symm).2; omega
      · by_cases e2 : j = p
        · subst e2
          simp only [if_pos, if_neg e]
          rcases hat with hat | hat
          · rw [← hat]; exact s.dc i j hi hj h
          · right; rw [hat]; intro e3; have := ((s.oc i hi).lt _ e3).2; omega
        · simp only [if_neg e, if_neg e2]
          exact s.dc i j hi hj h
    dk := s.dk
    few := fun i hi c hc => by
      by_cases e : i = p
      · subst e
        simp at hc
        rcases hc with hc | rfl
        · exact s.few i hi c hc
        · exact hx
      · simp only [if_neg e] at hc
        exact s.few i hi c hc }

/-- A number appended to kids[p], and the list stored back. -/
theorem St.kid {w1 : World} {v' : Value} {p x : Nat} (s : St w0 w m0 m1 bm tb B n k F nb nf cc ck) (hp : p < n)
    (hown : w1.ownsRow B 3 1 v' ((ck p).length + 1) (natVals (ck p) ++ [.int .i64 (x : Int)])) (hg : w.grownBy w1 (F 4 p).ownBlock)
    (hat : (F 4 p).ownBlock = v'.ownBlock ∨ v'.ownBlock = some w.heap.size) :
    St w0 (w1.setCell ⟨tb 4, p, none⟩ v') m0 m1 bm tb B n k (fun q j => if q = 4 then (if j = p then v' else F 4 j) else F q j) nb nf cc (fun i => if i = p then ck p ++ [x] else ck i) := by
  have hg2 := grown_setCell w1 (tb 4) p v'
  have l3 := s.lo3
  have l0 := l3 4 (by omega)
  have := s.lo0; have := s.lo1; have := s.lo2
  have hrow : ∀ g, (F 4 p).ownBlock = some g → B ≤ g := fun g h => ((s.ok p hp).lt g h).1
  have hrowT : ∀ g, (F 4 p).ownBlock = some g → ∃ cur, w.heap[g]? = some (.cells cur 3 (0, 0)) := fun g h => own_block (s.ok p hp) h
  have ne1 : ∀ b, b < B → some b ≠ (F 4 p).ownBlock := fun b hb e => by have := hrow b e.symm; omega
  have ne2 : ∀ b t, (∃ cur, w.heap[b]? = some (.cells cur t (0, 0))) → t ≠ 3 → some b ≠ (F 4 p).ownBlock := fun b t hb ht e => type_ne hb (hrowT b e.symm) ht rfl
  have ok1 : ∀ i, i < n → i ≠ p → w1.ownsRow B 3 1 (F 4 i) (ck i).length (natVals (ck i)) := fun i hi e => (s.ok i hi).kept hg (s.dk i p hi hp e)
  have oc1 : ∀ i, i < k → w1.ownsRow B 36 1 (nf i 6) (cc i).length (ptrVals nb (cc i)) := fun i hi => (s.oc i hi).kept hg (by
    cases hv : (nf i 6).ownBlock with
    | none => simp
    | some g => right; exact ne2 g 36 (own_block (s.oc i hi) hv) (by decide))
  exact {
    bel := (s.bel.grown hg s.bel.size (fun k hk => by have := hrow k hk; omega)).grown hg2 (by have := s.bel.size; have := hg.size; omega) (by intro k hk; simp at hk; omega)
    lo0 := s.lo0
    lo1 := s.lo1
    lo2 := s.lo2
    lo3 := s.lo3
    inj := s.inj
    size := Nat.le_trans (Nat.le_trans s.size hg.size) hg2.size
    mod0 := blk_grown hg2 (blk_grown hg s.mod0 (ne1 _ (by omega))) (by simp; omega)
    mod1 := blk_grown hg2 (blk_grown hg s.mod1 (ne1 _ (by omega))) (by simp; omega)
    mods := rowIs_grown hg2 (rowIs_grown hg s.mods (ne1 _ (by omega))) (by simp; omega)
    rows := fun r hr => by
      have h1 := rowIs_grown hg (s.rows r hr) (ne1 _ (l3 r hr).2)
      by_cases e : r = 4
      · subst e
        have := h1.set p v'
        simpa using this
      · have := rowIs_grown hg2 h1 (by simp; intro e2; exact e (s.inj r 4 hr (by omega) e2))
        simpa [e] using this
    nd := fun i hi => rowIs_grown hg2 (rowIs_grown hg (s.nd i hi) (ne2 _ 45 (row_type (s.nd i hi)) (by decide))) (by have := s.nbB i hi; simp; omega)
    nbB := s.nbB
    nbI := s.nbI
    oc := fun i hi => (oc1 i hi).kept hg2 (by
      cases hv : (nf i 6).ownBlock with
      | none => simp
      | some g => right; have := (s.oc i hi).lt g hv; simp; omega)
    ok := fun i hi => by
      by_cases e : i = p
      · subst e
        simp only [if_pos, List.length_append, List.length_singleton, natVals, List.map_append, List.map_cons, List.map_nil]
        exact hown.kept hg2 (by
          cases hv : v'.ownBlock with
          | none => simp
          | some g => right; have := hown.lt g hv; simp; omega)
      · simp only [if_pos, if_neg e]
        exact (ok1 i hi e).kept hg2 (by
          cases hv : (F 4 i).ownBlock with
          | none => simp
          | some g => right; have := (s.ok i hi).lt g hv; simp; omega)
    dc := s.dc
    dk := fun i j hi hj h => by
      by_cases e : i = p
      · subst e
        have hj' : j ≠ i := fun e => h e.symm
        simp only [if_pos, if_neg hj']
        rcases hat with hat | hat
        · rw [← hat]; exact s.dk i j hi hj h
        · right; rw [hat]; intro e3; have := ((s.ok j hj).lt _ e3.symm).2; omega
      · by_cases e2 : j = p
        · subst e2
          simp only [if_pos, if_neg e]
          rcases hat with hat | hat
          · rw [← hat]; exact s.dk i j hi hj h
          · right; rw [hat]; intro e3; have := ((s.ok i hi).lt _ e3).2; omega
        · simp only [if_pos, if_neg e, if_neg e2]
          exact s.dk i j hi hj h
    few := s.few }
end

end Go.Proofs.YbulkdpbaR
