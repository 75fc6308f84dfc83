import Derived.Test.Qxb6605238aRef
import Derived.Test.Qxb6605238aBfs
import Derived.Deep.Cut
import Derived.Deep.CutRange
import Derived.Deep.CutBlock
namespace Go.Proofs.Qxb6605238a
open Go.RowKit Go.Deep
set_option linter.unusedVariables false
set_option linter.unusedSimpArgs false

variable {n : Nat} {adj : Nat → List Nat}

def cI (adj : Nat → List Nat) (L : List Nat) (u j : Nat) : Nat := ((adj u).take j).countP (inL L)
def cC (adj : Nat → List Nat) (L : List Nat) (u j : Nat) : Nat := ((adj u).take j).countP fun x => inL L x && decide (rst adj L x = 1)

theorem cI_next {L : List Nat} {u j x : Nat} (hj : j < (adj u).length) (hx : (adj u)[j] = x) : cI adj L u (j + 1) = cI adj L u j + if inL L x then 1 else 0 := by
  unfold cI
  rw [take_next hj, hx, List.countP_append, List.countP_cons, List.countP_nil]; simp
theorem cC_next {L : List Nat} {u j x : Nat} (hj : j < (adj u).length) (hx : (adj u)[j] = x) : cC adj L u (j + 1) = cC adj L u j + if (inL L x && decide (rst adj L x = 1)) = true then 1 else 0 := by
  unfold cC
  rw [take_next hj, hx, List.countP_append, List.countP_cons, List.countP_nil]; simp
theorem cI_le {L : List Nat} {u j : Nat} : cI adj L u j ≤ j := Nat.le_trans List.countP_le_length (List.length_take_le _ _)
theorem cC_le {L : List Nat} {u j : Nat} : cC adj L u j ≤ j := Nat.le_trans List.countP_le_length (List.length_take_le _ _)
theorem cI_all {L : List Nat} {u : Nat} : cI adj L u (adj u).length + rst adj L u = (adj u).length := by
  unfold cI rst
  rw [List.take_length]
  have := List.length_eq_countP_add_countP (p := inL L) (l := adj u)
  simpa using this.symm
theorem cC_all (G : Gr n adj) {L : List Nat} {u : Nat} (hu : u < n) (h : u ∉ L) : cC adj L u (adj u).length = cls adj L u := by
  unfold cC
  rw [List.take_length, cls_open G hu h]
theorem cI_pos {L : List Nat} {u : Nat} (hu : u < n) (h : u ∉ L) : 0 < cI adj L u (adj u).length ↔ Cand n adj L u := by
  unfold cI Cand isn
  rw [List.take_length, bef_out h, List.countP_pos_iff]
  simp [hu, h, List.any_eq_true]

def bt3 (s t r s' t' r' : Int) : Prop := s < s' ∨ s = s' ∧ (t' < t ∨ t = t' ∧ r < r')
theorem bt3_facts (S T R S' T' R' : Int) :
    (bt3 S T R S' T' R' ∧ decide (S < S') = true) ∨
    (bt3 S T R S' T' R' ∧ decide (S < S') = false ∧ (S == S') = true ∧ decide (T' < T) = true) ∨
    (bt3 S T R S' T' R' ∧ decide (S < S') = false ∧ (S == S') = true ∧ decide (T' < T) = false ∧ (T == T') = true ∧ decide (R < R') = true) ∨
    (¬ bt3 S T R S' T' R' ∧ decide (S < S') = false ∧ (S == S') = false) ∨
    (¬ bt3 S T R S' T' R' ∧ decide (S < S') = false ∧ (S == S') = true ∧ decide (T' < T) = false ∧ (T == T') = false) ∨
    (¬ bt3 S T R S' T' R' ∧ decide (S < S') = false ∧ (S == S') = true ∧ decide (T' < T) = false ∧ (T == T') = true ∧ decide (R < R') = false) := by
  by_cases h1 : S < S'
  · exact Or.inl ⟨Or.inl h1, decide_eq_true h1⟩
  have q1 := decide_eq_false h1
  by_cases h2 : S = S'
  case neg => exact Or.inr (Or.inr (Or.inr (Or.inl ⟨fun h => (by unfold bt3 at h; omega), q1, by simp [h2]⟩)))
  have q2 : (S == S') = true := by simp [h2]
  by_cases h3 : T' < T
  · exact Or.inr (Or.inl ⟨Or.inr ⟨h2, Or.inl h3⟩, q1, q2, decide_eq_true h3⟩)
  have q3 := decide_eq_false h3
  by_cases h4 : T = T'
  case neg => exact Or.inr (Or.inr (Or.inr (Or.inr (Or.inl ⟨fun h => (by unfold bt3 at h; omega), q1, q2, q3, by simp [h4]⟩))))
  have q4 : (T == T') = true := by simp [h4]
  by_cases h5 : R < R'
  · exact Or.inr (Or.inr (Or.inl ⟨Or.inr ⟨h2, Or.inr ⟨h4, h5⟩⟩, q1, q2, q3, q4, decide_eq_true h5⟩))
  · exact Or.inr (Or.inr (Or.inr (Or.inr (Or.inr ⟨fun h => (by unfold bt3 at h; omega), q1, q2, q3, q4, decide_eq_false h5⟩))))

/-- The reference's memory. -/
structure RS (w wr : World) (n : Nat) (adj : Nat → List Nat) (tk : Nat → Bool) (rs : Nat → Int) (ov : Value) (L : List Nat) : Prop where
  below : Below w.heap.size w wr
  rI : wr.rowIs w.heap.size 4 n (fun i => .bool (tk i))
  rL : wr.rowIs (w.heap.size + 1) 3 n (fun i => .int .i64 (rs i))
  own : OwnI wr (w.heap.size + 2) ov (zl L)

theorem RS.alloc {w wr : World} {tk : Nat → Bool} {rs : Nat → Int} {ov : Value} {L : List Nat} (h : RS w wr n adj tk rs ov L) (o : Obj) : RS w (wr.alloc o) n adj tk rs ov L := ⟨h.below.alloc h.below.size _, h.rI.alloc o, h.rL.alloc o, h.own.alloc o⟩
theorem RS.setI {w wr : World} {tk : Nat → Bool} {rs : Nat → Int} {ov : Value} {L : List Nat} (h : RS w wr n adj tk rs ov L) (v : Nat) : RS w (wr.setCell ⟨w.heap.size, v, none⟩ (.bool true)) n adj (up tk v true) rs ov L :=
  ⟨h.below.setCell (Nat.le_refl _) _, up_row (e := Value.bool) h.rI v true, h.rL.setOther (by show w.heap.size + 1 ≠ w.heap.size; omega) _, h.own.setBelow (by show w.heap.size < _; omega) _⟩
theorem RS.setL {w wr : World} {tk : Nat → Bool} {rs : Nat → Int} {ov : Value} {L : List Nat} (h : RS w wr n adj tk rs ov L) (v : Nat) (z : Int) : RS w (wr.setCell ⟨w.heap.size + 1, v, none⟩ (.int .i64 z)) n adj tk (up rs v z) ov L :=
  ⟨h.below.setCell (by show w.heap.size ≤ w.heap.size + 1; omega) _, h.rI.setOther (by show w.heap.size ≠ w.heap.size + 1; omega) _, up_row (e := Value.int .i64) h.rL v z, h.own.setBelow (by show w.heap.size + 1 < _; omega) _⟩
theorem RS.congr {w wr : World} {tk tk' : Nat → Bool} {rs rs' : Nat → Int} {ov : Value} {L : List Nat} (h : RS w wr n adj tk rs ov L) (h1 : ∀ i, i < n → tk i = tk' i) (h2 : ∀ i, i < n → rs i = rs' i) : RS w wr n adj tk' rs' ov L :=
  ⟨h.below, h.rI.congr fun i hi => by rw [h1 i hi], h.rL.congr fun i hi => by rw [h2 i hi], h.own⟩
theorem RS.app {w wr w1 : World} {tk : Nat → Bool} {rs : Nat → Int} {ov v1 : Value} {L : List Nat} {u : Nat} (h : RS w wr n adj tk rs ov L) (hg : wr.grownBy w1 ov.ownBlock) (ho : OwnI w1 (w.heap.size + 2) v1 (zl L ++ [(u : Int)])) : RS w w1 n adj tk rs v1 (L ++ [u]) :=
  ⟨h.own.below hg h.below (by omega) h.below.size, h.own.rowKept hg h.rI (by omega), h.own.rowKept hg h.rL (by omega), by unfold zl at *; rw [List.map_append]; exact ho⟩

/-- The best so far, among the vertices below k. -/
def BR (n : Nat) (adj : Nat → List Nat) (L : List Nat) (bf : Int) (k : Nat) (nx a b c : Value) : Prop :=
  (nx = .int .i64 (-1) ∧ ∀ x, x < k → ¬ Cand n adj L x) ∨ ∃ u : Nat, Cand n adj L u ∧ u < k ∧ nx = .int .i64 u ∧ a = .int .i64 (bf + sc adj L u) ∧ b = .int .i64 (tn adj L u) ∧ c = .int .i64 (rst adj L u) ∧ ∀ x, x < k → Cand n adj L x → x ≠ u → btU adj L u x

theorem BR.skip {L : List Nat} {bf : Int} {k : Nat} {nx a b c : Value} (h : BR n adj L bf k nx a b c) (hk : ¬ Cand n adj L k) : BR n adj L bf (k + 1) nx a b c := by
  rcases h with ⟨h1, h2⟩ | ⟨u, h1, h2, h3, h4, h5, h6, h7⟩
  · refine Or.inl ⟨h1, fun x hx => ?_⟩
    by_cases e : x = k
    · rw [e]; exact hk
    · exact h2 x (by omega)
  · refine Or.inr ⟨u, h1, by omega, h3, h4, h5, h6, fun x hx hc hne => ?_⟩
    by_cases e : x = k
    · rw [e] at hc; exact absurd hc hk
    · exact h7 x (by omega) hc hne
theorem BR.first {L : List Nat} {bf : Int} {k : Nat} (h2 : ∀ x, x < k → ¬ Cand n adj L x) (hk : Cand n adj L k) : BR n adj L bf (k + 1) (.int .i64 k) (.int .i64 (bf + sc adj L k)) (.int .i64 (tn adj L k)) (.int .i64 (rst adj L k)) := by
  refine Or.inr ⟨k, hk, by omega, rfl, rfl, rfl, rfl, fun x hx hc hne => ?_⟩
  exact absurd hc (h2 x (by omega))
theorem BR.newer {L : List Nat} {bf : Int} {k u : Nat} (hu : Cand n adj L u) (h7 : ∀ x, x < k → Cand n adj L x → x ≠ u → btU adj L u x) (hk : Cand n adj L k) (hb : btU adj L k u) : BR n adj L bf (k + 1) (.int .i64 k) (.int .i64 (bf + sc adj L k)) (.int .i64 (tn adj L k)) (.int .i64 (rst adj L k)) := by
  refine Or.inr ⟨k, hk, by omega, rfl, rfl, rfl, rfl, fun x hx hc hne => ?_⟩
  by_cases e : x = u
  · rw [e]; exact hb
  · exact bt_trans hb (h7 x (by omega) hc e)
theorem BR.older {L : List Nat} {bf : Int} {k u : Nat} (hu : Cand n adj L u) (huk : u < k) (h7 : ∀ x, x < k → Cand n adj L x → x ≠ u → btU adj L u x) (hb : ¬ btU adj L k u) : BR n adj L bf (k + 1) (.int .i64 u) (.int .i64 (bf + sc adj L u)) (.int .i64 (tn adj L u)) (.int .i64 (rst adj L u)) := by
  refine Or.inr ⟨u, hu, by omega, rfl, rfl, rfl, rfl, fun x hx hc hne => ?_⟩
  by_cases e : x = k
  · rw [e]; exact bt_total (by omega) hb
  · exact h7 x (by omega) hc hne
theorem bt3_iff {L : List Nat} {bf : Int} {k u : Nat} (huk : u < k) : btU adj L k u ↔ bt3 (bf + sc adj L k) (tn adj L k) (rst adj L k) (bf + sc adj L u) (tn adj L u) (rst adj L u) := by
  unfold btU bt bt3; omega
theorem BR.best {L : List Nat} {bf : Int} {nx a b c : Value} (h : BR n adj L bf n nx a b c) : (nx = .int .i64 (-1) ∧ ∀ x, ¬ Cand n adj L x) ∨ ∃ u : Nat, nx = .int .i64 u ∧ Next n adj L u := by
  rcases h with ⟨h1, h2⟩ | ⟨u, h1, h2, h3, h4, h5, h6, h7⟩
  · exact Or.inl ⟨h1, fun x hx => h2 x hx.1 hx⟩
  · exact Or.inr ⟨u, h3, Or.inl ⟨h1, fun x hx hne => h7 x hx.1 hx hne⟩⟩
end Go.Proofs.Qxb6605238a
