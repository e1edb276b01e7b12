/-
  Seat b5798a: the plain law: the depth-first search 'named' answers the first match of the flat list. No Go in sight. By an AI agent.
-/
import GoSem.Claim
namespace Go.Proofs.YbulkdpbaR.Pl

/-- 'named', one list of children: hit: answer it; down: look below it first. -/
def namedL (hit down : Nat → Bool) (rec : Nat → Option Nat) : List Nat → Option Nat
  | [] => none
  | c :: cs => if hit c then some c else if down c then (match rec c with
    | some r => some r
    | none => namedL hit down rec cs) else namedL hit down rec cs

def namedF (hit down : Nat → Bool) (ch : Nat → List Nat) : Nat → Nat → Option Nat
  | 0, _ => none
  | f + 1, i => namedL hit down (namedF hit down ch f) (ch i)

/-- 'flat', one list of children. -/
def flatL (keep down : Nat → Bool) (rec : Nat → List Nat) : List Nat → List Nat
  | [] => []
  | c :: cs => (if keep c then [c] else []) ++ ((if down c then rec c else []) ++ flatL keep down rec cs)

def flatF (keep down : Nat → Bool) (ch : Nat → List Nat) : Nat → Nat → List Nat
  | 0, _ => []
  | f + 1, i => flatL keep down (flatF keep down ch f) (ch i)

theorem flatL_find (keep down m : Nat → Bool) (recF : Nat → List Nat) (recN : Nat → Option Nat) (h : ∀ c, (recF c).find? m = recN c) (cs : List Nat) :
    (flatL keep down recF cs).find? m = namedL (fun c => keep c && m c) down recN cs := by
  induction cs with
  | nil => rfl
  | cons c cs ih =>
    simp only [flatL, namedL, List.find?_append, ih]
    generalize namedL (fun c => keep c && m c) down recN cs = t
    by_cases hd : down c = true
    · have e : (List.find? m (if down c = true then recF c else [])) = recN c := by rw [if_pos hd, h]
      rw [e, if_pos hd]
      by_cases hk : keep c = true <;> by_cases hm : m c = true <;> simp [hk, hm] <;> cases recN c <;> simp
    · have e : (List.find? m (if down c = true then recF c else [])) = none := by rw [if_neg hd]; rfl
      rw [e, if_neg hd]
      by_cases hk : keep c = true <;> by_cases hm : m c = true <;> simp [hk, hm]

theorem flatF_find (keep down m : Nat → Bool) (ch : Nat → List Nat) (f : Nat) : ∀ i, (flatF keep down ch f i).find? m = namedF (fun c => keep c && m c) down ch f i := by
  induction f with
  | zero => intro i; rfl
  | succ f ih => intro i; exact flatL_find keep down m _ _ ih _

theorem flatF_mem (keep down : Nat → Bool) (ch : Nat → List Nat) (n : Nat) (hch : ∀ i, i < n → ∀ c ∈ ch i, c < n) (f : Nat) : ∀ i, i < n → ∀ c ∈ flatF keep down ch f i, c < n := by
  induction f with
  | zero => intro i _ c hc; simp [flatF] at hc
  | succ f ih =>
    intro i hi
    have key : ∀ cs : List Nat, (∀ c ∈ cs, c < n) → ∀ c ∈ flatL keep down (flatF keep down ch f) cs, c < n := by
      intro cs
      induction cs with
      | nil => intro _ c hc; simp [flatL] at hc
      | cons d ds ihd =>
        intro hds c hc
        simp only [flatL, List.mem_append] at hc
        rcases hc with hc | hc | hc
        · split at hc
          · simp at hc; subst hc; exact hds _ (by simp)
          · simp at hc
        · split at hc
          · exact ih d (hds d (by simp)) c hc
          · simp at hc
        · exact ihd (fun c hc => hds c (by simp [hc])) c hc
    exact key _ (hch i hi)

end Go.Proofs.YbulkdpbaR.Pl
