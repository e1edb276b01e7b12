/-
  Seat b5798a: the flat list passes no node twice, so it is no longer than the tree. No Go in sight. By an AI agent.
-/
import Derived.Test.YbulkdpbaRBridge
namespace Go.Proofs.YbulkdpbaR

def par1 (P : Nat → Int) (x : Nat) : Nat := if x = 0 then 0 else parF P x
def upN (P : Nat → Int) : Nat → Nat → Nat
  | 0, x => x
  | m + 1, x => par1 P (upN P m x)

theorem par1_le (P : Nat → Int) (x : Nat) : par1 P x ≤ x := by
  unfold par1
  split
  · omega
  · obtain ⟨k, rfl⟩ : ∃ k, x = k + 1 := ⟨x - 1, by omega⟩
    have := par_le P k
    omega
theorem upN_le (P : Nat → Int) : ∀ m x, upN P m x ≤ x
  | 0, _ => Nat.le_refl _
  | m + 1, x => Nat.le_trans (par1_le P _) (upN_le P m x)
theorem upN_add (P : Nat → Int) (a : Nat) : ∀ b x, upN P (b + a) x = upN P b (upN P a x)
  | 0, x => by rw [Nat.zero_add]; rfl
  | b + 1, x => by
    rw [show b + 1 + a = (b + a) + 1 from by omega]
    show par1 P (upN P (b + a) x) = par1 P (upN P b (upN P a x))
    rw [upN_add P a b x]

/-- Two different siblings have no descendant in common. -/
theorem sib (P : Nat → Int) {i c d x m q : Nat} (hc : par1 P c = i) (hd : par1 P d = i) (hci : i < c) (hdi : i < d) (h1 : upN P m x = c) (h2 : upN P q x = d) : c = d := by
  have key : ∀ {c d m q : Nat}, par1 P c = i → i < d → upN P m x = c → upN P q x = d → m ≤ q → c = d := by
    intro c d m q hc hdi h1 h2 hmq
    obtain ⟨e, rfl⟩ : ∃ e, q = e + m := ⟨q - m, by omega⟩
    rw [upN_add, h1] at h2
    cases e with
    | zero => exact h2
    | succ e =>
      rw [show e + 1 = e + 1 from rfl, upN_add P 1 e c] at h2
      have h3 : upN P 1 c = i := hc
      rw [h3] at h2
      have := upN_le P e i
      omega
  rcases Nat.le_total m q with h | h
  · exact key hc hdi h1 h2 h
  · exact (key hd hci h2 h1 h).symm

theorem chF_par (P : Nat → Int) : ∀ (k i c : Nat), c ∈ chF P k i → par1 P c = i
  | 0, _, _, h => by simp [chF] at h
  | k + 1, i, c, h => by
    simp only [chF] at h
    split at h
    · rename_i e
      simp at h
      rcases h with h | rfl
      · exact chF_par P k i c h
      · simp [par1, e]
    · exact chF_par P k i c h

theorem chF_nodup (P : Nat → Int) : ∀ (k i : Nat), (chF P k i).Nodup
  | 0, _ => by simp [chF]
  | k + 1, i => by
    simp only [chF]
    split
    · rw [List.nodup_append]
      refine ⟨chF_nodup P k i, by simp, fun a ha b hb => ?_⟩
      simp at hb
      have := chF_mem P k i a ha
      omega
    · exact chF_nodup P k i

section
variable (P : Nat → Int) (keep down : Nat → Bool) (n : Nat)

theorem seg_mem (rec : Nat → List Nat) (hrec : ∀ c x, x ∈ rec c → ∃ m, upN P m x = c) (cs : List Nat) : ∀ x, x ∈ Pl.flatL keep down rec cs → ∃ c, c ∈ cs ∧ ∃ m, upN P m x = c := by
  induction cs with
  | nil => intro x hx; simp [Pl.flatL] at hx
  | cons c cs ih =>
    intro x hx
    simp only [Pl.flatL, List.mem_append] at hx
    rcases hx with hx | hx | hx
    · split at hx
      · simp at hx; subst hx; exact ⟨x, by simp, 0, rfl⟩
      · simp at hx
    · split at hx
      · obtain ⟨m, hm⟩ := hrec c x hx
        exact ⟨c, by simp, m, hm⟩
      · simp at hx
    · obtain ⟨d, hd, hm⟩ := ih x hx
      exact ⟨d, by simp [hd], hm⟩

theorem flat_up (f : Nat) : ∀ i x, x ∈ Pl.flatF keep down (chF P n) f i → ∃ m, upN P m x = i := by
  induction f with
  | zero => intro i x hx; simp [Pl.flatF] at hx
  | succ f ih =>
    intro i x hx
    obtain ⟨c, hc, m, hm⟩ := seg_mem P keep down _ ih _ x hx
    refine ⟨1 + m, ?_⟩
    rw [upN_add P m 1 x, hm]
    exact chF_par P n i c hc

theorem flat_gt (f : Nat) : ∀ i x, x ∈ Pl.flatF keep down (chF P n) f i → i < x := by
  induction f with
  | zero => intro i x hx; simp [Pl.flatF] at hx
  | succ f ih =>
    intro i x hx
    have key : ∀ cs : List Nat, (∀ c ∈ cs, i < c) → ∀ x ∈ Pl.flatL keep down (Pl.flatF keep down (chF P n) f) cs, i < x := by
      intro cs
      induction cs with
      | nil => intro _ x hx; simp [Pl.flatL] at hx
      | cons d ds ihd =>
        intro hds x hx
        simp only [Pl.flatL, List.mem_append] at hx
        rcases hx with hx | hx | hx
        · split at hx
          · simp at hx; subst hx; exact hds x (by simp)
          · simp at hx
        · split at hx
          · have := ih d x hx; have := hds d (by simp); omega
          · simp at hx
        · exact ihd (fun c hc => hds c (by simp [hc])) x hx
    exact key _ (fun c hc => (chF_mem P n i c hc).1) x hx

theorem flat_nodup (f : Nat) : ∀ i, (Pl.flatF keep down (chF P n) f i).Nodup := by
  induction f with
  | zero => intro i; simp [Pl.flatF]
  | succ f ih =>
    intro i
    have key : ∀ cs : List Nat, cs.Nodup → (∀ c ∈ cs, par1 P c = i ∧ i < c) → (Pl.flatL keep down (Pl.flatF keep down (chF P n) f) cs).Nodup := by
      intro cs
      induction cs with
      | nil => intro _ _; simp [Pl.flatL]
      | cons d ds ihd =>
        intro hnd hds
        obtain ⟨hd0, hd1⟩ := List.nodup_cons.1 hnd
        have hdd := hds d (by simp)
        have hrest := ihd hd1 (fun c hc => hds c (by simp [hc]))
        have hfar : ∀ x, (∃ m, upN P m x = d) → x ∉ Pl.flatL keep down (Pl.flatF keep down (chF P n) f) ds := by
          rintro x ⟨m, hm⟩ hx
          obtain ⟨c, hc, q, hq⟩ := seg_mem P keep down _ (flat_up P keep down n f) ds x hx
          have hcc := hds c (by simp [hc])
          have := sib P hdd.1 hcc.1 hdd.2 hcc.2 hm hq
          subst this
          exact hd0 hc
        simp only [Pl.flatL]
        rw [List.nodup_append]
        refine ⟨by split <;> simp, ?_, ?_⟩
        · rw [List.nodup_append]
          refine ⟨?_, hrest, ?_⟩
          · split
            · exact ih d
            · simp
          · intro a ha b hb hab
            subst hab
            split at ha
            · exact hfar a (flat_up P keep down n f d a ha) hb
            · simp at ha
        · intro a ha b hb hab
          subst hab
          split at ha
          · simp at ha
            subst ha
            rcases List.mem_append.1 hb with hb | hb
            · split at hb
              · have := flat_gt P keep down n f a a hb; omega
              · simp at hb
            · exact hfar a ⟨0, rfl⟩ hb
          · simp at ha
    exact key _ (chF_nodup P n i) (fun c hc => ⟨chF_par P n i c hc, (chF_mem P n i c hc).1⟩)
end

theorem pigeon : ∀ (n : Nat) (l : List Nat), l.Nodup → (∀ x ∈ l, x < n) → l.length ≤ n
  | 0, l, _, h => by
    cases l with
    | nil => simp
    | cons a l => have := h a (by simp); omega
  | n + 1, l, hl, h => by
    have h1 := pigeon n (l.erase n) (hl.erase n) (fun x hx => by
      have hxl := List.mem_of_mem_erase hx
      have := h x hxl
      have hne : x ≠ n := fun e => by subst e; exact (List.Nodup.not_mem_erase hl) hx
      omega)
    by_cases hm : n ∈ l
    · rw [List.length_erase_of_mem hm] at h1; omega
    · rw [List.erase_of_not_mem hm] at h1; omega

theorem flat_len (P : Nat → Int) (keep down : Nat → Bool) (n f i : Nat) (hi : i < n + 1) : (Pl.flatF keep down (chF P n) f i).length ≤ n + 1 :=
  pigeon (n + 1) _ (flat_nodup P keep down n f i) (Pl.flatF_mem keep down (chF P n) (n + 1) (fun j _ c hc => by have := chF_mem P n j c hc; omega) f i hi)

end Go.Proofs.YbulkdpbaR
