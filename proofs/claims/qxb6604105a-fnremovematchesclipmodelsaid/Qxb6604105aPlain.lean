import Derived.Test.Qxb6604105aMem
namespace Go.Proofs.Qxb6604105a
set_option linter.unusedVariables false
set_option linter.unusedSimpArgs false

def WF (xs : List (Int × Int)) : Prop := ∀ i, i < xs.length → fa xs i < sa xs i ∧ (0 < i → sa xs (i - 1) ≤ fa xs i)
def Val (xs : List (Int × Int)) : Prop := ∀ i, i < xs.length → fa xs i ≤ sa xs i
def Cov (xs : List (Int × Int)) (x : Int) : Prop := ∃ i, i < xs.length ∧ fa xs i ≤ x ∧ x < sa xs i
def Same (xs ys : List (Int × Int)) : Prop := xs.length = ys.length ∧ ∀ i, i < xs.length → fa xs i = fa ys i ∧ sa xs i = sa ys i

theorem fa_get {xs : List (Int × Int)} {i : Nat} (h : i < xs.length) : fa xs i = xs[i].1 := by simp [fa, List.getD, h]
theorem sa_get {xs : List (Int × Int)} {i : Nat} (h : i < xs.length) : sa xs i = xs[i].2 := by simp [sa, List.getD, h]
theorem pair_mem {xs : List (Int × Int)} {i : Nat} (h : i < xs.length) : (fa xs i, sa xs i) ∈ xs := by
  rw [fa_get h, sa_get h]; exact List.getElem_mem h
theorem mem_pair {xs : List (Int × Int)} {p : Int × Int} (h : p ∈ xs) : ∃ i, i < xs.length ∧ fa xs i = p.1 ∧ sa xs i = p.2 := by
  obtain ⟨i, hi, rfl⟩ := List.getElem_of_mem h
  exact ⟨i, hi, fa_get hi, sa_get hi⟩

theorem Same.iff {xs ys : List (Int × Int)} : Same xs ys ↔ xs = ys := by
  constructor
  · rintro ⟨hl, h⟩
    apply List.ext_getElem hl
    intro i h1 h2
    obtain ⟨a, b⟩ := h i h1
    rw [fa_get h1, fa_get h2] at a
    rw [sa_get h1, sa_get h2] at b
    exact Prod.ext a b
  · rintro rfl
    exact ⟨rfl, fun _ _ => ⟨rfl, rfl⟩⟩

theorem wf_mono {xs : List (Int × Int)} (h : WF xs) : ∀ d i, i + d < xs.length → 0 < d → sa xs i ≤ fa xs (i + d) := by
  intro d
  induction d with
  | zero => intro i _ h0; omega
  | succ d ih =>
    intro i hi _
    have h1 := (h (i + (d + 1)) hi).2 (by omega)
    rw [show i + (d + 1) - 1 = i + d by omega] at h1
    by_cases hd : d = 0
    · subst hd; simpa using h1
    · have h2 := ih i (by omega) (by omega)
      have h3 := (h (i + d) (by omega)).1
      omega

theorem wf_lt {xs : List (Int × Int)} (h : WF xs) {i j : Nat} (hij : i < j) (hj : j < xs.length) : sa xs i ≤ fa xs j := by
  have := wf_mono h (j - i) i (by omega) (by omega)
  rwa [show i + (j - i) = j by omega] at this

theorem wf_pw {xs : List (Int × Int)} (h : WF xs) : xs.Pairwise (fun p q => p.2 ≤ q.1) := by
  rw [List.pairwise_iff_getElem]
  intro i j hi hj hij
  have := wf_lt h hij hj
  rwa [sa_get hi, fa_get hj] at this

theorem wf_all {xs : List (Int × Int)} (h : WF xs) : ∀ p ∈ xs, p.1 < p.2 := by
  intro p hp
  obtain ⟨i, hi, e1, e2⟩ := mem_pair hp
  have := (h i hi).1
  omega

theorem wf_of {xs : List (Int × Int)} (h : xs.Pairwise (fun p q => p.2 ≤ q.1)) (h' : ∀ p ∈ xs, p.1 < p.2) : WF xs := by
  intro i hi
  refine ⟨h' _ (pair_mem hi), fun h0 => ?_⟩
  rw [List.pairwise_iff_getElem] at h
  have := h (i - 1) i (by omega) hi (by omega)
  rwa [sa_get (by omega), fa_get hi]

theorem cov_iff {xs : List (Int × Int)} {x : Int} : Cov xs x ↔ ∃ p ∈ xs, p.1 ≤ x ∧ x < p.2 := by
  constructor
  · rintro ⟨i, hi, h1, h2⟩; exact ⟨_, pair_mem hi, h1, h2⟩
  · rintro ⟨p, hp, h1, h2⟩
    obtain ⟨i, hi, e1, e2⟩ := mem_pair hp
    exact ⟨i, hi, by omega, by omega⟩

/-! ### remove -/
def rem1 (f g : Int) (p : Int × Int) : List (Int × Int) :=
  if f ≤ p.1 ∧ p.2 ≤ g then [] else if f < p.2 ∧ p.1 < g then (if p.1 < f then [(p.1, f)] else []) ++ (if g < p.2 then [(g, p.2)] else []) else [p]
def remL (f g : Int) (xs : List (Int × Int)) : List (Int × Int) := xs.flatMap (rem1 f g)

def clip1 (f g : Int) (p : Int × Int) : List (Int × Int) :=
  if p.1 = p.2 then (if p.1 < f ∨ g < p.1 then [p] else []) else
  (if p.1 < (if p.2 < f then p.2 else f) then [(p.1, if p.2 < f then p.2 else f)] else []) ++ (if (if g < p.1 then p.1 else g) < p.2 then [(if g < p.1 then p.1 else g, p.2)] else [])
def clipL (f g : Int) (xs : List (Int × Int)) : List (Int × Int) := xs.flatMap (clip1 f g)

/-- The fragment reaches the pair. -/
def Tch (f g : Int) (p : Int × Int) : Prop := if p.1 = p.2 then f ≤ p.1 ∧ p.1 ≤ g else f < p.2 ∧ p.1 < g

theorem clip_rem1 {f g : Int} (h : f ≤ g) {p : Int × Int} (hp : p.1 ≤ p.2) : clip1 f g p = rem1 f g p := by
  obtain ⟨a, b⟩ := p
  simp only at hp
  unfold clip1 rem1
  dsimp only
  by_cases hab : a = b
  · subst hab
    rw [if_pos rfl]
    by_cases h1 : a < f ∨ g < a
    · rw [if_pos h1, if_neg (by omega), if_neg (by omega)]
    · rw [if_neg h1, if_pos (by omega)]
  · rw [if_neg hab]
    by_cases h1 : f ≤ a ∧ b ≤ g
    · rw [if_pos h1, if_neg (by split <;> omega), if_neg (by split <;> omega)]; rfl
    · rw [if_neg h1]
      by_cases h2 : f < b ∧ a < g
      · rw [if_pos h2, if_neg (show ¬ b < f by omega), if_neg (show ¬ g < a by omega)]
      · rw [if_neg h2]
        by_cases h3 : b ≤ f
        · by_cases h4 : b < f
          · rw [if_pos h4, if_pos (by omega), if_neg (by split <;> omega)]; rfl
          · have : b = f := by omega
            subst this
            rw [if_neg h4, if_pos (by omega), if_neg (by split <;> omega)]; rfl
        · rw [if_neg (show ¬ b < f by omega), if_neg (by omega)]
          by_cases h5 : g < a
          · rw [if_pos h5, if_pos (by omega)]; rfl
          · have : a = g := by omega
            subst this
            rw [if_neg h5, if_pos (by omega)]; rfl

theorem clip_rem {f g : Int} (h : f ≤ g) {xs : List (Int × Int)} (hv : Val xs) : clipL f g xs = remL f g xs := by
  unfold clipL remL
  rw [List.flatMap_def, List.flatMap_def]
  congr 1
  apply List.map_congr_left
  intro p hp
  obtain ⟨i, hi, e1, e2⟩ := mem_pair hp
  exact clip_rem1 h (by have := hv i hi; omega)

theorem rem1_not {f g : Int} (h : f ≤ g) {p : Int × Int} (hp : p.1 ≤ p.2) (ht : ¬ Tch f g p) : rem1 f g p = [p] := by
  unfold Tch at ht
  unfold rem1
  by_cases e : p.1 = p.2
  · rw [if_pos e] at ht
    rw [if_neg (by omega), if_neg (by omega)]
  · rw [if_neg e] at ht
    rw [if_neg (by omega), if_neg (by omega)]

theorem rem1_free {f g : Int} (h : f ≤ g) {p q : Int × Int} (hp : p.1 ≤ p.2) (hq : q ∈ rem1 f g p) : ¬ Tch f g q := by
  unfold rem1 at hq
  split at hq
  · simp at hq
  · rename_i h1
    split at hq
    · rename_i h2
      rcases List.mem_append.1 hq with hq | hq
      · split at hq
        · simp at hq; subst hq
          unfold Tch
          dsimp only
          split <;> omega
        · simp at hq
      · split at hq
        · simp at hq; subst hq
          unfold Tch
          dsimp only
          split <;> omega
        · simp at hq
    · rename_i h2
      simp at hq; subst hq
      unfold Tch
      split <;> omega

theorem rem_changed {f g : Int} (h : f ≤ g) {xs : List (Int × Int)} (hv : Val xs) : remL f g xs = xs ↔ ¬ ∃ p ∈ xs, Tch f g p := by
  have hall : ∀ p ∈ xs, p.1 ≤ p.2 := by
    intro p hp
    obtain ⟨i, hi, e1, e2⟩ := mem_pair hp
    have := hv i hi; omega
  constructor
  · rintro he ⟨p, hp, ht⟩
    rw [← he] at hp
    obtain ⟨q, hq, hpq⟩ := List.mem_flatMap.1 hp
    exact rem1_free h (hall q hq) hpq ht
  · intro hn
    have : ∀ ys : List (Int × Int), (∀ p ∈ ys, p.1 ≤ p.2) → (∀ p ∈ ys, ¬ Tch f g p) → remL f g ys = ys := by
      intro ys
      induction ys with
      | nil => intro _ _; rfl
      | cons y ys ih =>
        intro h1 h2
        show rem1 f g y ++ remL f g ys = _
        rw [rem1_not h (h1 y (by simp)) (h2 y (by simp)), ih (fun p hp => h1 p (by simp [hp])) (fun p hp => h2 p (by simp [hp]))]
        rfl
    exact this xs hall (fun p hp ht => hn ⟨p, hp, ht⟩)

theorem rem1_in {f g : Int} (h : f ≤ g) {p q : Int × Int} (hp : p.1 < p.2) (hq : q ∈ rem1 f g p) : p.1 ≤ q.1 ∧ q.1 < q.2 ∧ q.2 ≤ p.2 := by
  unfold rem1 at hq
  split at hq
  · simp at hq
  · rename_i h1
    split at hq
    · rename_i h2
      rcases List.mem_append.1 hq with hq | hq
      · split at hq
        · simp at hq; subst hq; dsimp only; omega
        · simp at hq
      · split at hq
        · simp at hq; subst hq; dsimp only; omega
        · simp at hq
    · simp at hq; subst hq; omega

theorem rem1_pw {f g : Int} (h : f ≤ g) {p : Int × Int} : (rem1 f g p).Pairwise (fun p q => p.2 ≤ q.1) := by
  unfold rem1
  split
  · simp
  · split
    · split <;> split <;> simp
      omega
    · simp

theorem rem_wf {f g : Int} (h : f ≤ g) {xs : List (Int × Int)} (hw : WF xs) : WF (remL f g xs) := by
  have hp := wf_pw hw
  have ha := wf_all hw
  refine wf_of ?_ ?_
  · unfold remL
    rw [List.pairwise_flatMap]
    refine ⟨fun p _ => rem1_pw h, ?_⟩
    have hboth : xs.Pairwise (fun p q => p.2 ≤ q.1 ∧ p.1 < p.2 ∧ q.1 < q.2) := by
      refine List.Pairwise.imp_of_mem ?_ hp
      intro p q hp' hq' hpq
      exact ⟨hpq, ha p hp', ha q hq'⟩
    refine List.Pairwise.imp_of_mem ?_ hboth
    rintro p q _ _ ⟨hpq, h1, h2⟩ x hx y hy
    have a := rem1_in h h1 hx
    have b := rem1_in h h2 hy
    omega
  · intro q hq
    obtain ⟨p, hp', hpq⟩ := List.mem_flatMap.1 hq
    exact (rem1_in h (ha p hp') hpq).2.1

theorem rem1_cov {f g : Int} (h : f ≤ g) {p : Int × Int} (x : Int) : (∃ q ∈ rem1 f g p, q.1 ≤ x ∧ x < q.2) ↔ (p.1 ≤ x ∧ x < p.2) ∧ ¬ (f ≤ x ∧ x < g) := by
  unfold rem1
  split
  · simp; omega
  · split
    · split <;> split <;> simp <;> omega
    · simp; omega

theorem rem_cov {f g : Int} (h : f ≤ g) (xs : List (Int × Int)) (x : Int) : Cov (remL f g xs) x ↔ Cov xs x ∧ ¬ (f ≤ x ∧ x < g) := by
  rw [cov_iff, cov_iff]
  constructor
  · rintro ⟨q, hq, hx⟩
    obtain ⟨p, hp, hpq⟩ := List.mem_flatMap.1 hq
    obtain ⟨h1, h2⟩ := (rem1_cov h x).1 ⟨q, hpq, hx⟩
    exact ⟨⟨p, hp, h1⟩, h2⟩
  · rintro ⟨⟨p, hp, h1⟩, h2⟩
    obtain ⟨q, hq, hx⟩ := (rem1_cov h x).2 ⟨h1, h2⟩
    exact ⟨q, List.mem_flatMap.2 ⟨p, hp, hq⟩, hx⟩

/-- 'hit' where the fragment holds a byte. -/
theorem hit_pos {f g : Int} (h : f < g) {xs : List (Int × Int)} (hw : WF xs) : (∃ p ∈ xs, Tch f g p) ↔ Cov xs f ∨ ∃ i, i < xs.length ∧ f ≤ fa xs i ∧ fa xs i < g := by
  have ha := wf_all hw
  rw [cov_iff]
  constructor
  · rintro ⟨p, hp, ht⟩
    have h1 := ha p hp
    unfold Tch at ht
    rw [if_neg (by omega)] at ht
    by_cases h2 : p.1 ≤ f
    · exact Or.inl ⟨p, hp, by omega, by omega⟩
    · obtain ⟨i, hi, e1, e2⟩ := mem_pair hp
      exact Or.inr ⟨i, hi, by omega, by omega⟩
  · rintro (⟨p, hp, h1, h2⟩ | ⟨i, hi, h1, h2⟩)
    · exact ⟨p, hp, by unfold Tch; rw [if_neg (by omega)]; omega⟩
    · have := (hw i hi).1
      exact ⟨_, pair_mem hi, by unfold Tch; dsimp only; rw [if_neg (by omega)]; omega⟩

/-- .. and where it is a point. -/
theorem hit_zero {f g : Int} (h : f = g) {xs : List (Int × Int)} (hw : WF xs) : (∃ p ∈ xs, Tch f g p) ↔ ∃ i, i < xs.length ∧ fa xs i < f ∧ f < sa xs i := by
  have ha := wf_all hw
  constructor
  · rintro ⟨p, hp, ht⟩
    have h1 := ha p hp
    unfold Tch at ht
    rw [if_neg (by omega)] at ht
    obtain ⟨i, hi, e1, e2⟩ := mem_pair hp
    exact ⟨i, hi, by omega, by omega⟩
  · rintro ⟨i, hi, h1, h2⟩
    exact ⟨_, pair_mem hi, by unfold Tch; dsimp only; rw [if_neg (by omega)]; omega⟩

theorem wf_val {xs : List (Int × Int)} (h : WF xs) : Val xs := fun i hi => by have := (h i hi).1; omega

/-! ### the binary search -/
theorem cov_found {xs : List (Int × Int)} (hw : WF xs) {x : Int} {l : Nat} (hl : l ≤ xs.length) (h1 : ∀ i, i < l → fa xs i ≤ x) (h2 : ∀ i, l ≤ i → i < xs.length → x < fa xs i) (h0 : 0 < l) :
    Cov xs x ↔ x < sa xs (l - 1) := by
  constructor
  · rintro ⟨i, hi, a, b⟩
    by_cases e : l ≤ i
    · have := h2 i e hi; omega
    · by_cases e2 : i = l - 1
      · subst e2; exact b
      · have := wf_lt hw (i := i) (j := l - 1) (by omega) (by omega)
        have := h1 (l - 1) (by omega)
        omega
  · intro h
    exact ⟨l - 1, by omega, h1 _ (by omega), h⟩

theorem cov_none {xs : List (Int × Int)} {x : Int} (h2 : ∀ i, 0 ≤ i → i < xs.length → x < fa xs i) : ¬ Cov xs x := by
  rintro ⟨i, hi, a, b⟩
  have := h2 i (by omega) hi
  omega

theorem search_up {xs : List (Int × Int)} (hw : WF xs) {x : Int} {m : Nat} (hm : m < xs.length) (h : fa xs m ≤ x) : ∀ i, i < m + 1 → fa xs i ≤ x := by
  intro i hi
  by_cases e : i = m
  · subst e; exact h
  · have := wf_lt hw (i := i) (j := m) (by omega) hm
    have := (hw i (by omega)).1
    omega
theorem search_down {xs : List (Int × Int)} (hw : WF xs) {x : Int} {m : Nat} (hm : m < xs.length) (h : x < fa xs m) : ∀ i, m ≤ i → i < xs.length → x < fa xs i := by
  intro i hi hl
  by_cases e : i = m
  · subst e; exact h
  · have := wf_lt hw (i := m) (j := i) (by omega) hl
    have := (hw m (by omega)).1
    omega
end Go.Proofs.Qxb6604105a
