import Derived.WalkKit
namespace Go.Proofs.Qxb6605238a
set_option linter.unusedVariables false
set_option linter.unusedSimpArgs false

/-- v is reached from 0 along E: it lies in every set that holds 0 and is closed under E. -/
def Rch (E : Nat → Nat → Prop) (v : Nat) : Prop := ∀ P : Nat → Prop, P 0 → (∀ a b, P a → E a b → P b) → P v

theorem rch_zero (E : Nat → Nat → Prop) : Rch E 0 := fun P h _ => h
theorem rch_step {E : Nat → Nat → Prop} {a b : Nat} (h : Rch E a) (e : E a b) : Rch E b := fun P h0 hs => hs a b (h P h0 hs) e

/-- How many of the first n are not yet reached. -/
def unr (r : Nat → Bool) : Nat → Nat
  | 0 => 0
  | n + 1 => unr r n + if r n = true then 0 else 1

def setR (r : Nat → Bool) (t : Nat) : Nat → Bool := fun v => if v = t then true else r v

theorem unr_le (r : Nat → Bool) : ∀ n, unr r n ≤ n
  | 0 => Nat.le_refl _
  | n + 1 => by
    have := unr_le r n
    unfold unr
    split <;> omega

theorem unr_set_ge (r : Nat → Bool) (t : Nat) : ∀ n, n ≤ t → unr (setR r t) n = unr r n
  | 0, _ => rfl
  | n + 1, h => by
    unfold unr
    rw [unr_set_ge r t n (by omega)]
    have : setR r t n = r n := by unfold setR; rw [if_neg (by omega)]
    rw [this]

theorem unr_set (r : Nat → Bool) (t : Nat) (ht : r t = false) : ∀ n, t < n → unr (setR r t) n + 1 = unr r n
  | 0, h => absurd h (Nat.not_lt_zero _)
  | n + 1, h => by
    unfold unr
    by_cases e : t = n
    · subst e
      rw [unr_set_ge r t t (Nat.le_refl _)]
      have : setR r t t = true := by unfold setR; rw [if_pos rfl]
      rw [this, ht]
      simp
    · have := unr_set r t ht n (by omega)
      have e2 : setR r t n = r n := by unfold setR; rw [if_neg (fun h => e h.symm)]
      rw [e2]
      omega

/-- The state of a search: r: reached; st: still to be explored; cur: being explored. -/
structure Srch (n : Nat) (E : Nat → Nat → Prop) (r : Nat → Bool) (st : List Nat) (cur : Nat → Prop) : Prop where
  zero : r 0 = true
  rng : ∀ v, r v = true → v < n ∧ Rch E v
  pend : ∀ v ∈ st, r v = true
  expl : ∀ u, r u = true → u ∈ st ∨ cur u ∨ ∀ v, E u v → r v = true
  size : st.length + unr r n ≤ n

def none1 : Nat → Prop := fun _ => False
def start1 : Nat → Bool := fun v => decide (v = 0)

theorem unr_start (n : Nat) : 1 + unr start1 (n + 1) = n + 1 := by
  induction n with
  | zero => simp [unr, start1]
  | succ n ih =>
    have : unr start1 (n + 1 + 1) = unr start1 (n + 1) + 1 := by
      show unr start1 (n + 1) + (if start1 (n + 1) = true then 0 else 1) = _
      simp [start1]
    omega

theorem srch_start {n : Nat} (E : Nat → Nat → Prop) (hn : 0 < n) : Srch n E start1 [0] none1 := by
  refine ⟨rfl, fun v hv => ?_, fun v hv => ?_, fun u hu => ?_, ?_⟩
  · have : v = 0 := by simpa [start1] using hv
    subst this
    exact ⟨hn, rch_zero E⟩
  · have : v = 0 := by simpa using hv
    subst this
    rfl
  · have : u = 0 := by simpa [start1] using hu
    subst this
    simp
  · obtain ⟨m, rfl⟩ : ∃ m, n = m + 1 := ⟨n - 1, by omega⟩
    have := unr_start m
    simp only [List.length_singleton]
    omega

/-- The last one is taken off the stack. -/
theorem Srch.pop {n : Nat} {E : Nat → Nat → Prop} {r : Nat → Bool} {st : List Nat} {u : Nat} (h : Srch n E r (st ++ [u]) none1) : Srch n E r st (fun x => x = u) := by
  refine ⟨h.zero, h.rng, fun v hv => h.pend v (by simp [hv]), fun x hx => ?_, ?_⟩
  · rcases h.expl x hx with h1 | h1 | h1
    · rcases List.mem_append.1 h1 with h2 | h2
      · exact Or.inl h2
      · exact Or.inr (Or.inl (by simpa using h2))
    · exact False.elim h1
    · exact Or.inr (Or.inr h1)
  · have := h.size
    simp only [List.length_append, List.length_singleton] at this
    omega

/-- The first one is taken off the queue. -/
theorem Srch.take {n : Nat} {E : Nat → Nat → Prop} {r : Nat → Bool} {st : List Nat} {u : Nat} (h : Srch n E r (u :: st) none1) : Srch n E r st (fun x => x = u) := by
  refine ⟨h.zero, h.rng, fun v hv => h.pend v (by simp [hv]), fun x hx => ?_, ?_⟩
  · rcases h.expl x hx with h1 | h1 | h1
    · rcases List.mem_cons.1 h1 with h2 | h2
      · exact Or.inr (Or.inl h2)
      · exact Or.inl h2
    · exact False.elim h1
    · exact Or.inr (Or.inr h1)
  · have := h.size
    simp only [List.length_cons] at this
    omega

/-- A new one is reached from u. -/
theorem Srch.push {n : Nat} {E : Nat → Nat → Prop} {r : Nat → Bool} {st : List Nat} {u t : Nat} (h : Srch n E r st (fun x => x = u)) (hu : r u = true) (he : E u t) (ht : r t = false) (htn : t < n) :
    Srch n E (setR r t) (st ++ [t]) (fun x => x = u) := by
  have hs : ∀ v, r v = true → setR r t v = true := by
    intro v hv
    unfold setR
    split
    · rfl
    · exact hv
  refine ⟨hs 0 h.zero, fun v hv => ?_, fun v hv => ?_, fun x hx => ?_, ?_⟩
  · unfold setR at hv
    split at hv
    · rename_i e
      subst e
      exact ⟨htn, rch_step (h.rng u hu).2 he⟩
    · exact h.rng v hv
  · rcases List.mem_append.1 hv with h1 | h1
    · exact hs v (h.pend v h1)
    · have : v = t := by simpa using h1
      subst this
      unfold setR
      rw [if_pos rfl]
  · unfold setR at hx
    split at hx
    · rename_i e
      subst e
      exact Or.inl (by simp)
    · rcases h.expl x hx with h1 | h1 | h1
      · exact Or.inl (by simp [h1])
      · exact Or.inr (Or.inl h1)
      · exact Or.inr (Or.inr (fun v hv => hs v (h1 v hv)))
  · have := h.size
    have h2 := unr_set r t ht n htn
    simp only [List.length_append, List.length_singleton]
    omega

/-- u is explored. -/
theorem Srch.done {n : Nat} {E : Nat → Nat → Prop} {r : Nat → Bool} {st : List Nat} {u : Nat} (h : Srch n E r st (fun x => x = u)) (hu : ∀ v, E u v → r v = true) : Srch n E r st none1 := by
  refine ⟨h.zero, h.rng, h.pend, fun x hx => ?_, h.size⟩
  rcases h.expl x hx with h1 | h1 | h1
  · exact Or.inl h1
  · subst h1; exact Or.inr (Or.inr hu)
  · exact Or.inr (Or.inr h1)

/-- Nothing is pending: reached is reachable. -/
theorem Srch.fin {n : Nat} {E : Nat → Nat → Prop} {r : Nat → Bool} (h : Srch n E r [] none1) (v : Nat) : r v = true ↔ Rch E v := by
  constructor
  · exact fun hv => (h.rng v hv).2
  · intro hv
    refine hv (fun x => r x = true) h.zero (fun a b ha hab => ?_)
    rcases h.expl a ha with h1 | h1 | h1
    · simp at h1
    · exact False.elim h1
    · exact h1 b hab

/-- What both functions answer: the least vertex that is not reached, or -1. -/
def Ans (n : Nat) (E : Nat → Nat → Prop) (a : Int) : Prop :=
  (a = -1 ∧ ∀ v, v < n → Rch E v) ∨ ∃ v : Nat, v < n ∧ a = (v : Int) ∧ ¬ Rch E v ∧ ∀ x, x < v → Rch E x

theorem Ans.same {n : Nat} {E : Nat → Nat → Prop} {a b : Int} (ha : Ans n E a) (hb : Ans n E b) : a = b := by
  rcases ha with ⟨rfl, h1⟩ | ⟨v, hv, rfl, h1, h2⟩
  · rcases hb with ⟨rfl, _⟩ | ⟨v, hv, rfl, h3, _⟩
    · rfl
    · exact absurd (h1 v hv) h3
  · rcases hb with ⟨rfl, h3⟩ | ⟨x, hx, rfl, h3, h4⟩
    · exact absurd (h3 v hv) h1
    · by_cases e : v = x
      · rw [e]
      · by_cases e2 : v < x
        · exact absurd (h4 v e2) h1
        · exact absurd (h2 x (by omega)) h3
end Go.Proofs.Qxb6605238a
