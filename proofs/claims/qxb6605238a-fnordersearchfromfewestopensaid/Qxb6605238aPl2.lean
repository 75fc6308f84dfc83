import Derived.Test.Qxb6605238aPl
namespace Go.Proofs.Qxb6605238a
set_option linter.unusedVariables false
set_option linter.unusedSimpArgs false

/-- 'near', its taken vertices struck. -/
structure Kept (n : Nat) (adj : Nat → List Nat) (L K : List Nat) : Prop where
  nd : K.Nodup
  mem : ∀ x, x ∈ K ↔ x < n ∧ isn adj L x = true ∧ x ∉ L
/-- 'near' behind a take. -/
structure Near (n : Nat) (adj : Nat → List Nat) (L : List Nat) (last : Nat) (K : List Nat) : Prop where
  nd : K.Nodup
  mem : ∀ x, x ∈ K ↔ x < n ∧ isn adj L x = true ∧ (x ∉ L ∨ x = last)

theorem kept_nil (n : Nat) (adj : Nat → List Nat) : Kept n adj [] [] := ⟨List.nodup_nil, fun x => by simp [isn_nil]⟩

theorem Near.kept {n : Nat} {adj : Nat → List Nat} {L K : List Nat} {last : Nat} (h : Near n adj L last K) (hl : last ∈ L) : Kept n adj L (K.filter fun x => !inL L x) := by
  refine ⟨List.Nodup.sublist List.filter_sublist h.nd, fun x => ?_⟩
  rw [List.mem_filter, h.mem]
  simp only [inL, Bool.not_eq_true', decide_eq_false_iff_not]
  constructor
  · rintro ⟨⟨h1, h2, _⟩, h3⟩; exact ⟨h1, h2, h3⟩
  · rintro ⟨h1, h2, h3⟩; exact ⟨⟨h1, h2, Or.inl h3⟩, h3⟩

theorem Kept.take {n : Nat} {adj : Nat → List Nat} (G : Gr n adj) {L K : List Nat} {v : Nat} (h : Kept n adj L K) (hv : v < n) (hvL : v ∉ L) :
    Near n adj (L ++ [v]) v (K ++ (adj v).filter fun x => !inL (L ++ [v]) x && !isn adj L x) := by
  refine ⟨?_, fun x => ?_⟩
  · rw [List.nodup_append]
    refine ⟨h.nd, List.Nodup.sublist List.filter_sublist (G.nd v hv), fun a ha b hb e => ?_⟩
    subst e
    have h1 := (h.mem a).1 ha
    have h2 := (List.mem_filter.1 hb).2
    rw [h1.2.1] at h2
    simp at h2
  · rw [List.mem_append, h.mem, List.mem_filter]
    by_cases hx : x < n
    · rw [isn_snoc G hv hx hvL]
      simp only [hx, true_and, Bool.and_eq_true, Bool.or_eq_true, decide_eq_true_eq, Bool.not_eq_true', inL, decide_eq_false_iff_not, List.mem_append, List.mem_singleton, not_or]
      by_cases hxv : x = v
      · subst hxv
        simp [hvL, G.irr x hv]
      · by_cases hxL : x ∈ L
        · simp [hxL, hxv]
        · simp only [hxL, hxv, not_false_eq_true, and_true, true_and, or_false]
          cases isn adj L x <;> simp
    · simp only [hx, false_and, iff_false, false_or]
      rintro ⟨h1, _⟩
      exact hx (G.rng v hv x h1)

/-! ### THE CHOICE -/
def Cand (n : Nat) (adj : Nat → List Nat) (L : List Nat) (u : Nat) : Prop := u < n ∧ isn adj L u = true ∧ u ∉ L
def sc (adj : Nat → List Nat) (L : List Nat) (u : Nat) : Int := -(cls adj L u : Int) + (if 0 < rst adj L u then 1 else 0)
def tn (adj : Nat → List Nat) (L : List Nat) (u : Nat) : Int := ((adj u).length : Int) - (rst adj L u : Int)
def bt (s t r u s' t' r' u' : Int) : Prop := s < s' ∨ s = s' ∧ (t' < t ∨ t = t' ∧ (r < r' ∨ r = r' ∧ u < u'))
def btU (adj : Nat → List Nat) (L : List Nat) (u u' : Nat) : Prop := bt (sc adj L u) (tn adj L u) (rst adj L u) u (sc adj L u') (tn adj L u') (rst adj L u') u'

theorem bt_trans {adj : Nat → List Nat} {L : List Nat} {a b c : Nat} (h1 : btU adj L a b) (h2 : btU adj L b c) : btU adj L a c := by
  unfold btU bt at *; omega
theorem bt_asymm {adj : Nat → List Nat} {L : List Nat} {a b : Nat} (h1 : btU adj L a b) (h2 : btU adj L b a) : False := by
  unfold btU bt at *; omega
theorem bt_total {adj : Nat → List Nat} {L : List Nat} {a b : Nat} (hne : a ≠ b) (h : ¬ btU adj L a b) : btU adj L b a := by
  unfold btU bt at *; omega

def Best (adj : Nat → List Nat) (L : List Nat) (S : Nat → Prop) (u : Nat) : Prop := S u ∧ ∀ x, S x → x ≠ u → btU adj L u x
def Next (n : Nat) (adj : Nat → List Nat) (L : List Nat) (u : Nat) : Prop :=
  Best adj L (Cand n adj L) u ∨ ((∀ x, ¬ Cand n adj L x) ∧ u < n ∧ u ∉ L ∧ ∀ x, x < u → x ∈ L)

theorem Next.lt {n : Nat} {adj : Nat → List Nat} {L : List Nat} {u : Nat} (h : Next n adj L u) : u < n ∧ u ∉ L := by
  rcases h with h | h
  · exact ⟨h.1.1, h.1.2.2⟩
  · exact ⟨h.2.1, h.2.2.1⟩

theorem Next.unique {n : Nat} {adj : Nat → List Nat} {L : List Nat} {u u' : Nat} (h : Next n adj L u) (h' : Next n adj L u') : u = u' := by
  rcases h with h | h <;> rcases h' with h' | h'
  · by_cases e : u = u'
    · exact e
    · exact absurd (h'.2 u h.1 e) (fun k => bt_asymm (h.2 u' h'.1 (fun e2 => e e2.symm)) k)
  · exact absurd h.1 (h'.1 u)
  · exact absurd h'.1 (h.1 u')
  · rcases Nat.lt_trichotomy u u' with e | e | e
    · exact absurd (h'.2.2.2 u e) h.2.2.1
    · exact e
    · exact absurd (h.2.2.2 u' e) h'.2.2.1

/-- L is what the greedy search takes, from start on. -/
structure Run (n : Nat) (adj : Nat → List Nat) (start : Nat) (L : List Nat) : Prop where
  pos : 0 < L.length
  hd : L[0]? = some start
  step : ∀ i, (h : i + 1 < L.length) → Next n adj (L.take (i + 1)) L[i + 1]
  nd : L.Nodup
  rng : ∀ x ∈ L, x < n

theorem run_one {n : Nat} {adj : Nat → List Nat} {start : Nat} (h : start < n) : Run n adj start [start] :=
  ⟨by simp, rfl, fun i h => by simp at h, by simp, by simpa using h⟩

theorem Run.snoc {n : Nat} {adj : Nat → List Nat} {start u : Nat} {L : List Nat} (h : Run n adj start L) (hn : Next n adj L u) : Run n adj start (L ++ [u]) := by
  have hp := h.pos
  refine ⟨by simp, ?_, fun i hi => ?_, ?_, ?_⟩
  · rw [List.getElem?_append_left hp]; exact h.hd
  · simp only [List.length_append, List.length_singleton] at hi
    by_cases e : i + 1 < L.length
    · rw [List.take_append_of_le_length (by omega), List.getElem_append_left e]
      exact h.step i e
    · have e2 : i + 1 = L.length := by omega
      have e3 : (L ++ [u])[i + 1]'(by simp; omega) = u := by
        rw [List.getElem_append_right (by omega)]; simp [e2]
      rw [e3, List.take_append_of_le_length (by omega), e2, List.take_length]
      exact hn
  · rw [List.nodup_append]
    refine ⟨h.nd, by simp, fun a ha b hb e => ?_⟩
    simp only [List.mem_singleton] at hb
    subst e; subst hb
    exact hn.lt.2 ha
  · intro x hx
    rcases List.mem_append.1 hx with e | e
    · exact h.rng x e
    · simp only [List.mem_singleton] at e; subst e; exact hn.lt.1

theorem Run.unique {n : Nat} {adj : Nat → List Nat} {start : Nat} {L L' : List Nat} (h : Run n adj start L) (h' : Run n adj start L') (hl : L.length = L'.length) : L = L' := by
  have key : ∀ k, k ≤ L.length → L.take k = L'.take k := by
    intro k
    induction k with
    | zero => simp
    | succ k ih =>
      intro hk
      have ih := ih (by omega)
      rw [List.take_succ_eq_append_getElem (by omega), List.take_succ_eq_append_getElem (by omega), ih]
      congr 2
      rcases Nat.eq_zero_or_pos k with e | e
      · subst e
        have a := h.hd
        have b := h'.hd
        rw [List.getElem?_eq_getElem (by omega)] at a b
        simp only [Option.some.injEq] at a b
        rw [a, b]
      · obtain ⟨j, rfl⟩ : ∃ j, k = j + 1 := ⟨k - 1, by omega⟩
        have s1 := h.step j (by omega)
        have s2 := h'.step j (by omega)
        rw [ih] at s1
        exact s1.unique s2
  have := key L.length (Nat.le_refl _)
  rwa [List.take_length, hl, List.take_length] at this

/-! ### THE PLACES -/
def ps (n : Nat) (L : List Nat) (v : Nat) : Nat := if v ∈ L then L.idxOf v else n

theorem ps_le {n : Nat} {L : List Nat} (hl : L.length ≤ n) (v : Nat) : ps n L v ≤ n := by
  unfold ps
  split
  · rename_i h
    have := List.idxOf_lt_length_iff.2 h
    omega
  · exact Nat.le_refl _
theorem ps_lt_n {n : Nat} {L : List Nat} (hl : L.length ≤ n) (v : Nat) : ps n L v < n ↔ v ∈ L := by
  unfold ps
  split
  · rename_i h
    have := List.idxOf_lt_length_iff.2 h
    exact ⟨fun _ => h, fun _ => by omega⟩
  · rename_i h
    exact ⟨fun h2 => absurd h2 (Nat.lt_irrefl _), fun h2 => absurd h2 h⟩
theorem ps_eq_n {n : Nat} {L : List Nat} (hl : L.length ≤ n) (v : Nat) : ps n L v = n ↔ v ∉ L := by
  have h1 := ps_lt_n hl v
  have h2 := ps_le hl v
  constructor
  · intro h3 h4
    have := h1.2 h4
    omega
  · intro h3
    rcases Nat.lt_or_ge (ps n L v) n with h4 | h4
    · exact absurd (h1.1 h4) h3
    · omega

theorem mem_bef {x v : Nat} : ∀ {L : List Nat}, x ∈ L → v ∈ L → (L.idxOf x < L.idxOf v ↔ x ∈ bef L v)
  | [], h, _ => by simp at h
  | a :: r, hx, hv => by
    unfold bef
    rw [List.idxOf_cons, List.idxOf_cons, List.takeWhile_cons]
    by_cases e1 : a = v
    · subst e1
      simp
    · have e1' : (a == v) = false := by simp [e1]
      rw [e1']
      simp only [cond_false, decide_eq_true_eq, ne_eq, e1, not_false_eq_true, decide_true, if_true, List.mem_cons]
      by_cases e2 : a = x
      · subst e2; simp
      · have e2' : (a == x) = false := by simp [e2]
        rw [e2']
        have hx' : x ∈ r := (List.mem_cons.1 hx).resolve_left (fun e => e2 e.symm)
        have hv' : v ∈ r := (List.mem_cons.1 hv).resolve_left (fun e => e1 e.symm)
        have ih := mem_bef hx' hv'
        unfold bef at ih
        simp only [cond_false]
        rw [Nat.add_lt_add_iff_right, ih]
        exact ⟨fun h => Or.inr h, fun h => h.resolve_left (fun e => e2 e.symm)⟩

theorem ps_lt {n : Nat} {L : List Nat} (hl : L.length ≤ n) (x v : Nat) : ps n L x < ps n L v ↔ x ∈ bef L v := by
  by_cases hx : x ∈ L
  · by_cases hv : v ∈ L
    · unfold ps
      rw [if_pos hx, if_pos hv]
      exact mem_bef hx hv
    · rw [bef_out hv, (ps_eq_n hl v).2 hv]
      exact ps_lt_n hl x
  · have h1 : x ∉ bef L v := fun h => hx ((List.takeWhile_sublist _).subset h)
    have h2 := (ps_eq_n hl x).2 hx
    have h3 := ps_le hl v
    constructor
    · intro h4; omega
    · intro h4; exact absurd h4 h1
end Go.Proofs.Qxb6605238a
