import Derived.WalkKit
import Derived.ProofKit
import Derived.Deep.LoopGhost
import Derived.Deep.OwnRows
import Derived.Deep.QuietTactic
import Derived.BigQuiet
import Derived.WalkSpells
import Derived.WalkLawsBesides
namespace Go.Proofs.Qxb6604105a
open Go.RowKit Go.Deep
set_option linter.unusedVariables false
set_option linter.unusedSimpArgs false

/-- The first and the second number of pair i. -/
def fa (xs : List (Int × Int)) (i : Nat) : Int := (xs.getD i (0, 0)).1
def sa (xs : List (Int × Int)) (i : Nat) : Int := (xs.getD i (0, 0)).2

/-- The slice at A of pairs xs: element i takes two cells. -/
def Prs (w : World) (A : Option Addr) (xs : List (Int × Int)) : Prop :=
  ∀ i, i < xs.length → ∃ b off, A = some ⟨b, off, none⟩ ∧ w.cell? ⟨b, off + i * 2, none⟩ = some (.int .i64 (fa xs i)) ∧ w.cell? ⟨b, off + i * 2 + 1, none⟩ = some (.int .i64 (sa xs i))

theorem cell_lt {w : World} {a : Addr} {v : Value} (h : w.cell? a = some v) : a.block < w.heap.size := World.block_lt_of_cell? _ _ h

theorem Prs.nil (w : World) (A : Option Addr) : Prs w A [] := fun i hi => absurd hi (Nat.not_lt_zero _)

theorem Prs.below {w w' : World} {A : Option Addr} {xs : List (Int × Int)} (h : Prs w A xs) (hb : Below w.heap.size w w') : Prs w' A xs := by
  intro i hi
  obtain ⟨b, off, hA, h0, h1⟩ := h i hi
  exact ⟨b, off, hA, by rw [hb.cell (cell_lt h0), h0], by rw [hb.cell (cell_lt h1), h1]⟩

theorem Prs.drewN {w : World} {A : Option Addr} {xs : List (Int × Int)} (h : Prs w A xs) (m : Nat) : Prs (w.drewN m) A xs := by
  intro i hi
  obtain ⟨b, off, hA, h0, h1⟩ := h i hi
  exact ⟨b, off, hA, by simpa using h0, by simpa using h1⟩

/-- A list of lists: its cells; each list's pairs. -/
structure Rng (w : World) (A : Option Addr) (n : Nat) (R : Nat → List (Int × Int)) (IA : Nat → Option Addr) (C : Nat → Nat) : Prop where
  cell : ∀ i, i < n → ∃ b off, A = some ⟨b, off, none⟩ ∧ w.cell? ⟨b, off + i, none⟩ = some (.slice (IA i) (R i).length (C i))
  row : ∀ i, i < n → Prs w (IA i) (R i)
  bare : ∀ i, i < n → IA i = none → R i = []

theorem Rng.below {w w' : World} {A : Option Addr} {n : Nat} {R : Nat → List (Int × Int)} {IA : Nat → Option Addr} {C : Nat → Nat} (h : Rng w A n R IA C) (hb : Below w.heap.size w w') : Rng w' A n R IA C := by
  refine ⟨fun i hi => ?_, fun i hi => (h.row i hi).below hb, h.bare⟩
  obtain ⟨b, off, hA, h0⟩ := h.cell i hi
  exact ⟨b, off, hA, by rw [hb.cell (cell_lt h0), h0]⟩

theorem Rng.drewN {w : World} {A : Option Addr} {n : Nat} {R : Nat → List (Int × Int)} {IA : Nat → Option Addr} {C : Nat → Nat} (h : Rng w A n R IA C) (m : Nat) : Rng (w.drewN m) A n R IA C := by
  refine ⟨fun i hi => ?_, fun i hi => (h.row i hi).drewN m, h.bare⟩
  obtain ⟨b, off, hA, h0⟩ := h.cell i hi
  exact ⟨b, off, hA, by simpa using h0⟩

theorem dr2 (w : World) (a b : Nat) : ∃ m, (w.drewN a).drewN b = w.drewN m := ⟨_, by rw [World.drewN_drewN]⟩
theorem dr3 (w : World) (a b c : Nat) : ∃ m, ((w.drewN a).drewN b).drewN c = w.drewN m := ⟨_, by rw [World.drewN_drewN, World.drewN_drewN]⟩
theorem ret_int {k : IntKind} {a b : Int} (h : a = b) : Ending.returned (.int k a) = .returned (.int k b) := by rw [h]
theorem ret_bool {a b : Bool} (h : a = b) : Ending.returned (.bool a) = .returned (.bool b) := by rw [h]

end Go.Proofs.Qxb6604105a
