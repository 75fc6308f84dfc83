import Derived.Test.Qxb6604105aReads3
namespace Go.Proofs.Qxb6604105a
open Go.RowKit Go.Deep
set_option linter.unusedVariables false
set_option linter.unusedSimpArgs false

theorem info26 : (Try.prog.info? 26).map (fun i => (i.zero, i.size, i.bytes)) = some (some (.slice none 0 0), 1, 24) := by kernel_rfl
theorem info46 : (Try.prog.info? 46).map (fun i => (i.zero, i.size, i.bytes)) = some (some (.slice none 0 0), 1, 24) := by kernel_rfl
theorem info33 : (Try.prog.info? 33).map (fun i => (i.zero, i.size, i.bytes)) = some (some (.agg #[.int .i64 0, .int .i64 0]), 2, 16) := by kernel_rfl
theorem info41 : (Try.prog.info? 41).map (fun i => (i.zero, i.size, i.bytes)) = some (some (.agg #[.int .i64 0, .int .i64 0]), 2, 16) := by kernel_rfl

/-- 'make([]T, n)', T of two integer cells. -/
theorem run_make_pairs (t e : TypeId) (ht : Try.prog.underlying t = some (.slice e)) (hinfo : (Try.prog.info? e).map (fun i => (i.zero, i.size, i.bytes)) = some (some (.agg #[.int .i64 0, .int .i64 0]), 2, 16))
    (kl kc : IntKind) (n : Nat) (hn : n ≤ 1048576) (w : World) :
    (Instr.makeSlice t (.int kl (n : Int)) (.int kc (n : Int))).run Try.prog w = .ok (.slice (some ⟨w.heap.size, 0, none⟩) n n) (w.alloc (.cells (madeCells #[.int .i64 0, .int .i64 0] (n * 2)) e)) := by
  obtain ⟨i, hi, hzz⟩ := Option.map_eq_some_iff.1 hinfo
  simp only [Prod.mk.injEq] at hzz
  obtain ⟨hz, hs, hb⟩ := hzz
  have hr := run_make (P := Try.prog) w t e i _ ht hi hz kl kc n n (by omega) (Int.le_refl _) (by rw [hb]; omega) (by omega)
  simp only [Int.toNat_natCast, hs] at hr
  exact hr

/-- Cell j of a row of pairs. -/
def cv (xs : List (Int × Int)) (j : Nat) : Value := .int .i64 (if j % 2 = 0 then fa xs (j / 2) else sa xs (j / 2))
theorem cv_even (xs : List (Int × Int)) (i : Nat) : cv xs (i * 2) = .int .i64 (fa xs i) := by
  unfold cv
  rw [if_pos (by omega), show i * 2 / 2 = i by omega]
theorem cv_odd (xs : List (Int × Int)) (i : Nat) : cv xs (i * 2 + 1) = .int .i64 (sa xs i) := by
  unfold cv
  rw [if_neg (by omega), show (i * 2 + 1) / 2 = i by omega]

theorem rowIs_zeros (w : World) (n : Nat) (e : TypeId) : (w.alloc (.cells (madeCells #[.int .i64 0, .int .i64 0] n) e)).rowIs w.heap.size e n (fun _ => .int .i64 0) := by
  refine ⟨_, blk_alloc_new _ _, size_madeCells _ _, fun i hi => ?_⟩
  simp [madeCells, hi]
  have : i % 2 = 0 ∨ i % 2 = 1 := by omega
  rcases this with h | h <;> rw [h] <;> rfl

/-- The row that is being copied: r pairs are there. -/
def Part (w : World) (g : Nat) (e : TypeId) (xs : List (Int × Int)) (r : Nat) : Prop := w.rowIs g e (xs.length * 2) (fun j => if j < r * 2 then cv xs j else .int .i64 0)

theorem Part.step {w : World} {g : Nat} {e : TypeId} {xs : List (Int × Int)} {r : Nat} (h : Part w g e xs r) :
    Part ((w.setCell ⟨g, r * 2, none⟩ (.int .i64 (fa xs r))).setCell ⟨g, r * 2 + 1, none⟩ (.int .i64 (sa xs r))) g e xs (r + 1) := by
  refine ((h.set (r * 2) _).set (r * 2 + 1) _).congr fun j _ => ?_
  by_cases e1 : j = r * 2 + 1
  · subst e1; rw [if_pos rfl, if_pos (by omega), cv_odd]
  · rw [if_neg e1]
    by_cases e0 : j = r * 2
    · subst e0; rw [if_pos rfl, if_pos (by omega), cv_even]
    · rw [if_neg e0]
      by_cases hlt : j < r * 2
      · rw [if_pos hlt, if_pos (by omega)]
      · rw [if_neg hlt, if_neg (by omega)]

theorem Part.full {w : World} {g : Nat} {e : TypeId} {xs : List (Int × Int)} (h : Part w g e xs xs.length) : w.rowIs g e (xs.length * 2) (cv xs) :=
  h.congr fun j hj => by rw [if_pos hj]

theorem prs_of_row {w : World} {g : Nat} {e : TypeId} {xs : List (Int × Int)} (h : w.rowIs g e (xs.length * 2) (cv xs)) : Prs w (some ⟨g, 0, none⟩) xs := by
  intro i hi
  refine ⟨g, 0, rfl, ?_, ?_⟩
  · rw [← cv_even, Nat.zero_add]; exact h.cell (by omega)
  · rw [← cv_odd, Nat.zero_add]; exact h.cell (by omega)

theorem Part.cell0 {w : World} {g : Nat} {e : TypeId} {xs : List (Int × Int)} {r : Nat} (h : Part w g e xs r) (hr : r < xs.length) : w.cell? ⟨g, r * 2, none⟩ = some (.int .i64 0) := by
  have := World.rowIs.cell h (i := r * 2) (by omega)
  rwa [if_neg (by omega)] at this
theorem Part.cell1 {w : World} {g : Nat} {e : TypeId} {xs : List (Int × Int)} {r : Nat} (h : Part w g e xs r) (hr : r < xs.length) : w.cell? ⟨g, r * 2 + 1, none⟩ = some (.int .i64 0) := by
  have := World.rowIs.cell h (i := r * 2 + 1) (by omega)
  rwa [if_neg (by omega)] at this

/-- A copy of the first k lists; V: where each copy lies. -/
structure Top (w wr : World) (E e : TypeId) (n k : Nat) (R : Nat → List (Int × Int)) (IA V : Nat → Option Addr) : Prop where
  below : Below w.heap.size w wr
  top : wr.rowIs w.heap.size E n (fun i => if i < k then .slice (V i) (R i).length (R i).length else .slice none 0 0)
  nils : ∀ i, i < k → IA i = none → V i = none
  rows : ∀ i, i < k → IA i ≠ none → ∃ g, V i = some ⟨g, 0, none⟩ ∧ w.heap.size < g ∧ wr.rowIs g e ((R i).length * 2) (cv (R i))

theorem top_start (w : World) (E e : TypeId) (n : Nat) (R : Nat → List (Int × Int)) (IA : Nat → Option Addr) :
    Top w (w.alloc (.cells (madeCells #[.slice none 0 0] n) E)) E e n 0 R IA (fun _ => none) :=
  ⟨(Below.refl _ _).alloc (Nat.le_refl _) _, (World.rowIs_made w _ n E).congr (fun j _ => by simp), fun i hi => absurd hi (Nat.not_lt_zero _), fun i hi => absurd hi (Nat.not_lt_zero _)⟩

theorem Top.drewN {w wr : World} {E e : TypeId} {n k : Nat} {R : Nat → List (Int × Int)} {IA V : Nat → Option Addr} (h : Top w wr E e n k R IA V) (m : Nat) : Top w (wr.drewN m) E e n k R IA V := by
  have hh : (wr.drewN m).heap = wr.heap := by simp
  refine ⟨below_drewN h.below m, h.top.of_block (by rw [hh]), h.nils, fun i hi hn => ?_⟩
  obtain ⟨g, e1, e2, e3⟩ := h.rows i hi hn
  exact ⟨g, e1, e2, e3.of_block (by rw [hh])⟩

theorem Top.skip {w wr : World} {E e : TypeId} {n k : Nat} {R : Nat → List (Int × Int)} {IA V : Nat → Option Addr} (h : Top w wr E e n k R IA V) (hk : IA k = none) (hR : R k = []) :
    Top w wr E e n (k + 1) R IA (fun i => if i = k then none else V i) := by
  refine ⟨h.below, h.top.congr fun i _ => ?_, fun i hi hn => ?_, fun i hi hn => ?_⟩
  · by_cases e1 : i = k
    · subst e1; rw [if_neg (Nat.lt_irrefl _), if_pos (by omega), if_pos rfl, hR]; rfl
    · by_cases e2 : i < k
      · rw [if_pos e2, if_pos (by omega), if_neg e1]
      · rw [if_neg e2, if_neg (by omega)]
  · by_cases e1 : i = k
    · rw [if_pos e1]
    · rw [if_neg e1]; exact h.nils i (by omega) hn
  · by_cases e1 : i = k
    · subst e1; exact absurd hk hn
    · rw [if_neg e1]; exact h.rows i (by omega) hn

theorem Top.lt {w wr : World} {E e : TypeId} {n k : Nat} {R : Nat → List (Int × Int)} {IA V : Nat → Option Addr} (h : Top w wr E e n k R IA V) : w.heap.size < wr.heap.size := h.top.lt

theorem Top.born {w wr : World} {E e : TypeId} {n k : Nat} {R : Nat → List (Int × Int)} {IA V : Nat → Option Addr} (h : Top w wr E e n k R IA V) (o : Obj) : Top w (wr.alloc o) E e n k R IA V := by
  refine ⟨h.below.alloc (Nat.le_of_lt h.lt) _, h.top.alloc _, h.nils, fun i hi hn => ?_⟩
  obtain ⟨g, e1, e2, e3⟩ := h.rows i hi hn
  exact ⟨g, e1, e2, e3.alloc _⟩

theorem part_start (w : World) (e : TypeId) (xs : List (Int × Int)) : Part (w.alloc (.cells (madeCells #[.int .i64 0, .int .i64 0] (xs.length * 2)) e)) w.heap.size e xs 0 :=
  (rowIs_zeros w _ e).congr fun j _ => by rw [if_neg (by omega)]

/-- The inner loop's relation: list k's copy lies at g, r pairs are there; g is none of the others' blocks. -/
structure Mid (w wr : World) (E e : TypeId) (n k : Nat) (R : Nat → List (Int × Int)) (IA V : Nat → Option Addr) (g r : Nat) : Prop where
  top : Top w wr E e n k R IA V
  part : Part wr g e (R k) r
  lt : w.heap.size < g
  apart : ∀ i, i < k → V i ≠ some ⟨g, 0, none⟩

theorem mid_start {w wr : World} {E e : TypeId} {n k : Nat} {R : Nat → List (Int × Int)} {IA V : Nat → Option Addr} (h : Top w wr E e n k R IA V) :
    Mid w (wr.alloc (.cells (madeCells #[.int .i64 0, .int .i64 0] ((R k).length * 2)) e)) E e n k R IA V wr.heap.size 0 := by
  refine ⟨h.born _, part_start wr e (R k), h.lt, fun i hi hv => ?_⟩
  by_cases hn : IA i = none
  · rw [h.nils i hi hn] at hv; cases hv
  · obtain ⟨g, e1, e2, e3⟩ := h.rows i hi hn
    rw [e1] at hv
    cases hv
    exact absurd e3.lt (Nat.lt_irrefl _)

theorem Top.setOther {w wr : World} {E e : TypeId} {n k : Nat} {R : Nat → List (Int × Int)} {IA V : Nat → Option Addr} (h : Top w wr E e n k R IA V) {g : Nat} (hg : w.heap.size < g) (ha : ∀ i, i < k → V i ≠ some ⟨g, 0, none⟩) (o : Nat) (v : Value) :
    Top w (wr.setCell ⟨g, o, none⟩ v) E e n k R IA V := by
  refine ⟨h.below.setCell (by show w.heap.size ≤ g; omega) _, h.top.setOther (by show w.heap.size ≠ g; omega) _, h.nils, fun i hi hn => ?_⟩
  obtain ⟨g', e1, e2, e3⟩ := h.rows i hi hn
  refine ⟨g', e1, e2, e3.setOther ?_ _⟩
  show g' ≠ g
  intro e
  subst e
  exact ha i hi e1

theorem Mid.step {w wr : World} {E e : TypeId} {n k : Nat} {R : Nat → List (Int × Int)} {IA V : Nat → Option Addr} {g r : Nat} (h : Mid w wr E e n k R IA V g r) :
    Mid w ((wr.setCell ⟨g, r * 2, none⟩ (.int .i64 (fa (R k) r))).setCell ⟨g, r * 2 + 1, none⟩ (.int .i64 (sa (R k) r))) E e n k R IA V g (r + 1) :=
  ⟨(h.top.setOther h.lt h.apart _ _).setOther h.lt h.apart _ _, h.part.step, h.lt, h.apart⟩

theorem Mid.drewN {w wr : World} {E e : TypeId} {n k : Nat} {R : Nat → List (Int × Int)} {IA V : Nat → Option Addr} {g r : Nat} (h : Mid w wr E e n k R IA V g r) (m : Nat) : Mid w (wr.drewN m) E e n k R IA V g r :=
  ⟨h.top.drewN m, h.part.of_block (by simp), h.lt, h.apart⟩

theorem Mid.drew {w wr : World} {E e : TypeId} {n k : Nat} {R : Nat → List (Int × Int)} {IA V : Nat → Option Addr} {g r : Nat} (h : Mid w wr E e n k R IA V g r) : Mid w wr.drew E e n k R IA V g r := h.drewN 1

theorem Mid.done {w wr : World} {E e : TypeId} {n k : Nat} {R : Nat → List (Int × Int)} {IA V : Nat → Option Addr} {g : Nat} (h : Mid w wr E e n k R IA V g (R k).length) (hk : IA k ≠ none) :
    Top w (wr.setCell ⟨w.heap.size, k, none⟩ (.slice (some ⟨g, 0, none⟩) (R k).length (R k).length)) E e n (k + 1) R IA (fun i => if i = k then some ⟨g, 0, none⟩ else V i) := by
  refine ⟨h.top.below.setCell (Nat.le_refl _) _, (h.top.top.set k _).congr fun i _ => ?_, fun i hi hn => ?_, fun i hi hn => ?_⟩
  · by_cases e1 : i = k
    · subst e1; rw [if_pos rfl, if_pos (by omega), if_pos rfl]
    · rw [if_neg e1]
      by_cases e2 : i < k
      · rw [if_pos e2, if_pos (by omega), if_neg e1]
      · rw [if_neg e2, if_neg (by omega)]
  · by_cases e1 : i = k
    · subst e1; exact absurd hn hk
    · rw [if_neg e1]; exact h.top.nils i (by omega) hn
  · have hlt := h.lt
    by_cases e1 : i = k
    · subst e1
      refine ⟨g, by rw [if_pos rfl], h.lt, h.part.full.setOther ?_ _⟩
      show g ≠ w.heap.size
      omega
    · rw [if_neg e1]
      obtain ⟨g', a1, a2, a3⟩ := h.top.rows i (by omega) hn
      refine ⟨g', a1, a2, a3.setOther ?_ _⟩
      show g' ≠ w.heap.size
      omega

/-- The copy whole, read as lists. -/
theorem Top.rng {w wr : World} {E e : TypeId} {n : Nat} {R : Nat → List (Int × Int)} {IA V : Nat → Option Addr} (h : Top w wr E e n n R IA V) (hb : ∀ i, i < n → IA i = none → R i = []) :
    Rng wr (some ⟨w.heap.size, 0, none⟩) n R V (fun i => (R i).length) := by
  refine ⟨fun i hi => ⟨w.heap.size, 0, rfl, ?_⟩, fun i hi => ?_, fun i hi hn => ?_⟩
  · have := h.top.cell hi
    rw [if_pos hi] at this
    rw [Nat.zero_add]; exact this
  · by_cases hn : IA i = none
    · rw [hb i hi hn]; exact Prs.nil _ _
    · obtain ⟨g, e1, e2, e3⟩ := h.rows i hi hn
      rw [e1]
      exact prs_of_row e3
  · by_cases hn' : IA i = none
    · exact hb i hi hn'
    · obtain ⟨g, e1, e2, e3⟩ := h.rows i hi hn'
      rw [e1] at hn; cases hn

end Go.Proofs.Qxb6604105a
