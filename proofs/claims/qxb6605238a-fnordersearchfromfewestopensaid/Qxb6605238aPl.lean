import Derived.Test.Qxb6605238aMem
namespace Go.Proofs.Qxb6605238a
set_option linter.unusedVariables false
set_option linter.unusedSimpArgs false

/-! THE PLAIN SIDE of the order search: a simple graph, and the greedy order by its definition. -/

structure Gr (n : Nat) (adj : Nat → List Nat) : Prop where
  rng : ∀ v, v < n → ∀ x ∈ adj v, x < n
  irr : ∀ v, v < n → v ∉ adj v
  nd : ∀ v, v < n → (adj v).Nodup
  sym : ∀ v, v < n → ∀ x ∈ adj v, v ∈ adj x

def inL (L : List Nat) (x : Nat) : Bool := decide (x ∈ L)
/-- The neighbours not in L. -/
def rst (adj : Nat → List Nat) (L : List Nat) (v : Nat) : Nat := (adj v).countP fun x => !inL L x
/-- What stands in L ahead of v. -/
def bef (L : List Nat) (v : Nat) : List Nat := L.takeWhile fun x => decide (x ≠ v)
def cls (adj : Nat → List Nat) (L : List Nat) (v : Nat) : Nat := (adj v).countP fun w => inL (bef L v) w && (adj w).all fun x => decide (x = v) || inL (bef L v) x
def isn (adj : Nat → List Nat) (L : List Nat) (v : Nat) : Bool := (adj v).any fun x => inL (bef L v) x

theorem tw_self {p : Nat → Bool} : ∀ {l : List Nat}, (∀ a ∈ l, p a = true) → l.takeWhile p = l
  | [], _ => rfl
  | a :: r, h => by rw [List.takeWhile_cons, if_pos (h a (by simp)), tw_self (fun x hx => h x (by simp [hx]))]
theorem tw_mem {p : Nat → Bool} {x : Nat} : ∀ {l : List Nat}, x ∈ l.takeWhile p → p x = true
  | [], h => by simp at h
  | a :: r, h => by
    rw [List.takeWhile_cons] at h
    split at h
    · rename_i hp
      rcases List.mem_cons.1 h with e | e
      · rw [e]; exact hp
      · exact tw_mem e
    · simp at h

theorem bef_out {L : List Nat} {v : Nat} (h : v ∉ L) : bef L v = L := by
  unfold bef
  apply tw_self
  intro a ha
  simp
  rintro rfl
  exact h ha
theorem bef_snoc_in {L : List Nat} {u v : Nat} (h : u ∈ L) : bef (L ++ [v]) u = bef L u := by
  unfold bef
  rw [List.takeWhile_append, if_neg]
  intro e
  have h2 : L.takeWhile (fun x => decide (x ≠ u)) = L := List.Sublist.eq_of_length (List.takeWhile_sublist _) e
  rw [← h2] at h
  have := tw_mem h
  simp at this
theorem bef_snoc_self {L : List Nat} {v : Nat} (h : v ∉ L) : bef (L ++ [v]) v = L := by
  have h2 := bef_out h
  unfold bef at *
  rw [List.takeWhile_append, if_pos (by rw [h2])]
  simp

theorem inL_snoc (L : List Nat) (v x : Nat) : inL (L ++ [v]) x = (inL L x || decide (x = v)) := by
  simp [inL]
theorem inL_iff {L : List Nat} {x : Nat} : inL L x = true ↔ x ∈ L := by simp [inL]
theorem inL_false {L : List Nat} {x : Nat} : inL L x = false ↔ x ∉ L := by simp [inL]

/-- One that satisfies p more or less. -/
theorem countP_flip {p q : Nat → Bool} {v : Nat} (hp : p v = true) (hq : q v = false) (hpq : ∀ x, x ≠ v → p x = q x) : ∀ {l : List Nat}, l.Nodup → l.countP p = l.countP q + (if v ∈ l then 1 else 0)
  | [], _ => by simp
  | a :: r, h => by
    have hr := (List.nodup_cons.1 h)
    have ih := countP_flip hp hq hpq hr.2
    rw [List.countP_cons, List.countP_cons, ih]
    by_cases e : a = v
    · subst e
      rw [hp, hq, if_neg hr.1]
      simp
    · rw [hpq a e]
      have : (v ∈ a :: r) = (v ∈ r) := propext ⟨fun h2 => (List.mem_cons.1 h2).resolve_left (fun e2 => e e2.symm), fun h2 => List.mem_cons_of_mem _ h2⟩
      simp only [this]
      omega

theorem rst_snoc {n : Nat} {adj : Nat → List Nat} (G : Gr n adj) {L : List Nat} {v x : Nat} (hv : v < n) (hx : x < n) (h : v ∉ L) : rst adj L x = rst adj (L ++ [v]) x + (if x ∈ adj v then 1 else 0) := by
  unfold rst
  rw [countP_flip (v := v) (q := fun x => !inL (L ++ [v]) x) (by simp [inL, h]) (by simp [inL]) (fun y hy => by simp [inL, hy]) (G.nd x hx)]
  have : (v ∈ adj x) = (x ∈ adj v) := propext ⟨G.sym x hx v, G.sym v hv x⟩
  simp only [this]

/-- Exactly one. -/
theorem one_only {p : Nat → Bool} {u x : Nat} : ∀ {l : List Nat}, l.countP p = 1 → u ∈ l → p u = true → x ∈ l → p x = true → x = u
  | [], _, h, _, _, _ => by simp at h
  | a :: r, h1, hu, pu, hx, px => by
    rw [List.countP_cons] at h1
    by_cases pa : p a = true
    · rw [if_pos pa] at h1
      have h0 : r.countP p = 0 := by omega
      rw [List.countP_eq_zero] at h0
      have hu' : u = a := by
        rcases List.mem_cons.1 hu with e | e
        · exact e
        · exact absurd pu (h0 u e)
      have hx' : x = a := by
        rcases List.mem_cons.1 hx with e | e
        · exact e
        · exact absurd px (h0 x e)
      rw [hu', hx']
    · rw [if_neg pa] at h1
      have hu' : u ∈ r := by
        rcases List.mem_cons.1 hu with e | e
        · subst e; exact absurd pu pa
        · exact e
      have hx' : x ∈ r := by
        rcases List.mem_cons.1 hx with e | e
        · subst e; exact absurd px pa
        · exact e
      exact one_only (by omega) hu' pu hx' px

theorem one_find {p : Nat → Bool} {u : Nat} {l : List Nat} (h1 : l.countP p = 1) : l.find? p = some u ↔ u ∈ l ∧ p u = true := by
  constructor
  · intro h
    exact ⟨List.mem_of_find?_eq_some h, List.find?_some h⟩
  · rintro ⟨hu, pu⟩
    cases hf : l.find? p with
    | none =>
      rw [List.find?_eq_none] at hf
      exact absurd pu (hf u hu)
    | some y => rw [one_only h1 hu pu (List.mem_of_find?_eq_some hf) (List.find?_some hf)]

theorem two_of {p : Nat → Bool} {u v : Nat} {l : List Nat} (hl : l.Nodup) (hu : u ∈ l) (hv : v ∈ l) (pu : p u = true) (pv : p v = true) (hne : u ≠ v) : 2 ≤ l.countP p := by
  have := countP_flip (p := p) (q := fun x => p x && decide (x ≠ v)) (v := v) pv (by simp) (fun x hx => by simp [hx]) hl
  rw [if_pos hv] at this
  have h2 : 0 < l.countP (fun x => p x && decide (x ≠ v)) := List.countP_pos_iff.2 ⟨u, hu, by simp [pu, hne]⟩
  omega

theorem count_swap (q : Nat → Bool) {a b : List Nat} (ha : a.Nodup) (hb : b.Nodup) : a.countP (fun w => q w && decide (w ∈ b)) = b.countP (fun w => q w && decide (w ∈ a)) := by
  rw [List.countP_eq_length_filter, List.countP_eq_length_filter]
  refine List.Perm.length_eq ((List.perm_ext_iff_of_nodup (List.Nodup.sublist List.filter_sublist ha) (List.Nodup.sublist List.filter_sublist hb)).2 fun x => ?_)
  simp only [List.mem_filter, Bool.and_eq_true, decide_eq_true_eq]
  constructor
  · rintro ⟨h1, h2, h3⟩; exact ⟨h3, h2, h1⟩
  · rintro ⟨h1, h2, h3⟩; exact ⟨h3, h2, h1⟩

/-- w closes with u: its one neighbour not in L is u. -/
theorem closes_iff {n : Nat} {adj : Nat → List Nat} (G : Gr n adj) {L : List Nat} {u w : Nat} (hu : u < n) (hw : w < n) (hwu : w ∈ adj u) (h : u ∉ L) :
    ((adj w).all fun x => decide (x = u) || inL L x) = true ↔ rst adj L w = 1 := by
  have huw : u ∈ adj w := G.sym u hu w hwu
  have e := countP_flip (p := fun x => !inL L x) (q := fun x => !inL L x && decide (x ≠ u)) (v := u) (by simp [inL, h]) (by simp) (fun x hx => by simp [hx]) (G.nd w hw)
  rw [if_pos huw] at e
  unfold rst
  rw [e, List.all_eq_true]
  constructor
  · intro h1
    have : (adj w).countP (fun x => !inL L x && decide (x ≠ u)) = 0 := by
      rw [List.countP_eq_zero]
      intro x hx
      have := h1 x hx
      simp only [Bool.or_eq_true, decide_eq_true_eq] at this
      simp only [Bool.and_eq_true, Bool.not_eq_true', decide_eq_true_eq]
      rintro ⟨h2, h3⟩
      rcases this with h4 | h4
      · exact h3 h4
      · rw [h4] at h2; cases h2
    omega
  · intro h1 x hx
    have h0 : (adj w).countP (fun x => !inL L x && decide (x ≠ u)) = 0 := by omega
    rw [List.countP_eq_zero] at h0
    have := h0 x hx
    simp only [Bool.and_eq_true, Bool.not_eq_true', decide_eq_true_eq] at this
    simp only [Bool.or_eq_true, decide_eq_true_eq]
    by_cases e2 : x = u
    · exact Or.inl e2
    · right
      cases h4 : inL L x
      · exact absurd ⟨h4, e2⟩ this
      · rfl

theorem cls_open {n : Nat} {adj : Nat → List Nat} (G : Gr n adj) {L : List Nat} {u : Nat} (hu : u < n) (h : u ∉ L) : cls adj L u = (adj u).countP fun w => inL L w && decide (rst adj L w = 1) := by
  unfold cls
  rw [bef_out h]
  refine List.countP_congr fun w hw => ?_
  have := closes_iff G hu (G.rng u hu w hw) hw h
  simp only [Bool.and_eq_true, decide_eq_true_eq]
  rw [this]

/-- What 'take' adds to closing[u]. -/
def addC (adj : Nat → List Nat) (tk : Nat → Bool) (rs : Nat → Nat) (v u : Nat) : Nat :=
  (if rs v = 1 ∧ (adj v).find? (fun x => !tk x) = some u then 1 else 0) + (adj v).countP fun w => tk w && decide (rs w = 2) && decide ((adj w).find? (fun x => !tk x) = some u)

theorem addC_in {adj : Nat → List Nat} {tk : Nat → Bool} {rs : Nat → Nat} {v u : Nat} (h : tk u = true) : addC adj tk rs v u = 0 := by
  have hf : ∀ w, (adj w).find? (fun x => !tk x) ≠ some u := by
    intro w hw
    have := List.find?_some hw
    simp [h] at this
  unfold addC
  rw [if_neg (fun h2 => hf v h2.2), List.countP_eq_zero.2]
  intro w _
  simp [hf w]

theorem cls_snoc {n : Nat} {adj : Nat → List Nat} (G : Gr n adj) {L : List Nat} {v u : Nat} (hv : v < n) (hu : u < n) (h : v ∉ L) :
    cls adj (L ++ [v]) u = cls adj L u + addC adj (inL (L ++ [v])) (rst adj L) v u := by
  by_cases huL : u ∈ L
  · rw [addC_in (by simp [inL, huL])]
    unfold cls
    rw [bef_snoc_in huL]
    rfl
  · by_cases huv : u = v
    · subst huv
      rw [addC_in (by simp [inL])]
      unfold cls
      rw [bef_snoc_self huL, bef_out huL]
      rfl
    · have hu' : u ∉ L ++ [v] := by simp [huL, huv]
      rw [cls_open G hu hu', cls_open G hu huL]
      unfold addC
      -- part adj u by the three kinds
      have hvv : v ∉ adj v := G.irr v hv
      have k1 : (adj u).countP (fun w => inL (L ++ [v]) w && decide (rst adj (L ++ [v]) w = 1)) =
          (adj u).countP (fun w => inL L w && decide (rst adj L w = 1)) + ((adj u).countP (fun w => decide (w = v) && decide (rst adj L v = 1)) + (adj u).countP (fun w => (inL L w && decide (rst adj L w = 2)) && decide (w ∈ adj v))) := by
        have key : ∀ l : List Nat, (∀ w ∈ l, w ∈ adj u) → l.countP (fun w => inL (L ++ [v]) w && decide (rst adj (L ++ [v]) w = 1)) =
          l.countP (fun w => inL L w && decide (rst adj L w = 1)) + (l.countP (fun w => decide (w = v) && decide (rst adj L v = 1)) + l.countP (fun w => (inL L w && decide (rst adj L w = 2)) && decide (w ∈ adj v))) := by
          intro l hl
          induction l with
          | nil => simp
          | cons w r ih =>
            have ih := ih (fun x hx => hl x (List.mem_cons_of_mem _ hx))
            have hwu := hl w (by simp)
            have hwn := G.rng u hu w hwu
            have hrs := rst_snoc G hv hwn h
            simp only [List.countP_cons, ih]
            by_cases e : w = v
            · subst e
              rw [if_neg hvv] at hrs
              have e1 : inL L w = false := inL_false.2 h
              have e2 : inL (L ++ [w]) w = true := by simp [inL]
              simp only [e1, e2, Bool.true_and, Bool.false_and, decide_true, Nat.add_zero] at *
              rw [hrs]
              simp
              omega
            · have e2 : inL (L ++ [v]) w = inL L w := by rw [inL_snoc]; simp [e]
              rw [e2]
              cases hw : inL L w
              · simp [e]
              · have huw := G.sym u hu w hwu
                by_cases hwv : w ∈ adj v
                · rw [if_pos hwv] at hrs
                  have hvw := G.sym v hv w hwv
                  have h2 := two_of (p := fun x => !inL L x) (G.nd w hwn) huw hvw (by simp [inL, huL]) (by simp [inL, h]) huv
                  have h2' : 2 ≤ rst adj L w := h2
                  simp only [Bool.true_and, e, decide_false, Bool.false_and, hwv, decide_true, Bool.and_true, decide_eq_true_eq]
                  rw [hrs]
                  split <;> split <;> split <;> simp_all <;> omega
                · rw [if_neg hwv] at hrs
                  simp only [Bool.true_and, e, decide_false, Bool.false_and, hwv, Bool.and_false, decide_eq_true_eq]
                  rw [hrs]
                  simp
                  omega
        exact key _ (fun _ h => h)
      have k2 : (adj u).countP (fun w => decide (w = v) && decide (rst adj L v = 1)) = if rst adj L v = 1 ∧ (adj v).find? (fun x => !inL (L ++ [v]) x) = some u then 1 else 0 := by
        by_cases h1 : rst adj L v = 1
        · have hs := rst_snoc G hv hv h
          rw [if_neg hvv] at hs
          have h1' : (adj v).countP (fun x => !inL (L ++ [v]) x) = 1 := by
            have : rst adj (L ++ [v]) v = 1 := by omega
            exact this
          have hf := one_find (u := u) h1'
          have hcnt := countP_flip (p := fun w => decide (w = v)) (q := fun _ => false) (v := v) (by simp) rfl (fun x hx => by simp [hx]) (G.nd u hu)
          simp only [h1, decide_true, Bool.and_true, true_and]
          rw [hcnt]
          have h0 : (adj u).countP (fun _ => false) = 0 := by simp
          rw [h0]
          have : (v ∈ adj u) = ((adj v).find? (fun x => !inL (L ++ [v]) x) = some u) := by
            rw [hf]
            refine propext ⟨fun h2 => ⟨G.sym u hu v h2, by simp [inL, huL, huv]⟩, fun h2 => G.sym v hv u h2.1⟩
          simp only [this]
          omega
        · rw [if_neg (fun h2 => h1 h2.1)]
          simp [h1]
      have k3 : (adj u).countP (fun w => (inL L w && decide (rst adj L w = 2)) && decide (w ∈ adj v)) = (adj v).countP fun w => inL (L ++ [v]) w && decide (rst adj L w = 2) && decide ((adj w).find? (fun x => !inL (L ++ [v]) x) = some u) := by
        rw [count_swap _ (G.nd u hu) (G.nd v hv)]
        refine List.countP_congr fun w hw => ?_
        have hwn := G.rng v hv w hw
        have hwv : w ≠ v := fun e => hvv (e ▸ hw)
        have e2 : inL (L ++ [v]) w = inL L w := by rw [inL_snoc]; simp [hwv]
        rw [e2]
        simp only [Bool.and_eq_true, decide_eq_true_eq]
        refine and_congr_right fun h2 => ?_
        have hs := rst_snoc G hv hwn h
        rw [if_pos hw] at hs
        have h1' : (adj w).countP (fun x => !inL (L ++ [v]) x) = 1 := by
          have : rst adj (L ++ [v]) w = 1 := by omega
          exact this
        rw [one_find h1']
        constructor
        · intro h3
          exact ⟨G.sym u hu w h3, by simp [inL, huL, huv]⟩
        · intro h3
          exact G.sym w hwn u h3.1
      rw [k1, k2, k3]

theorem isn_snoc {n : Nat} {adj : Nat → List Nat} (G : Gr n adj) {L : List Nat} {v x : Nat} (hv : v < n) (hx : x < n) (h : v ∉ L) :
    isn adj (L ++ [v]) x = (isn adj L x || (decide (x ∈ adj v) && !inL (L ++ [v]) x)) := by
  by_cases hxL : x ∈ L
  · unfold isn
    rw [bef_snoc_in hxL]
    simp [inL, hxL]
  · by_cases hxv : x = v
    · subst hxv
      unfold isn
      rw [bef_snoc_self hxL, bef_out hxL]
      simp [inL]
    · have hx' : x ∉ L ++ [v] := by simp [hxL, hxv]
      unfold isn
      rw [bef_out hx', bef_out hxL, inL_false.2 hx']
      simp only [Bool.not_false, Bool.and_true]
      rw [Bool.eq_iff_iff]
      simp only [List.any_eq_true, Bool.or_eq_true, decide_eq_true_eq, inL_iff, List.mem_append, List.mem_singleton]
      constructor
      · rintro ⟨y, hy, h1 | h1⟩
        · exact Or.inl ⟨y, hy, h1⟩
        · subst h1
          exact Or.inr (G.sym x hx y hy)
      · rintro (⟨y, hy, h1⟩ | h1)
        · exact ⟨y, hy, Or.inl h1⟩
        · exact ⟨v, G.sym v hv x h1, Or.inr rfl⟩

theorem isn_nil (adj : Nat → List Nat) (x : Nat) : isn adj [] x = false := by simp [isn, bef, inL]
theorem cls_nil (adj : Nat → List Nat) (x : Nat) : cls adj [] x = 0 := by simp [cls, bef, inL]
theorem rst_nil (adj : Nat → List Nat) (x : Nat) : rst adj [] x = (adj x).length := by simp [rst, inL, List.countP_true]
end Go.Proofs.Qxb6605238a
