import Derived.WalkKit
import Derived.ProofKit
import Derived.Deep.LoopGhost
import Derived.Deep.OwnRows
import Derived.Deep.QuietTactic
import Derived.BigQuiet
import Derived.BigRegion
import Derived.WalkSpells
import Derived.WalkLawsBesides
namespace Go.Proofs.Qxb6605238a
open Go.RowKit Go.Deep
set_option linter.unusedVariables false
set_option linter.unusedSimpArgs false

theorem hide {p : Prop} (h : p) : Hid p := h
theorem cell_lt {w : World} {a : Addr} {v : Value} (h : w.cell? a = some v) : a.block < w.heap.size := World.block_lt_of_cell? _ _ h

/-- Number i of a list. -/
def iz (zs : List Int) (i : Nat) : Int := zs.getD i 0
def bz (bs : List Bool) (i : Nat) : Bool := bs.getD i false
def fa (xs : List (Int × Int)) (i : Nat) : Int := (xs.getD i (0, 0)).1
def sa (xs : List (Int × Int)) (i : Nat) : Int := (xs.getD i (0, 0)).2

/-- The slice at A of n cells V 0, V 1, .. -/
def Cells (w : World) (A : Option Addr) (n : Nat) (V : Nat → Value) : Prop :=
  ∀ i, i < n → ∃ b off, A = some ⟨b, off, none⟩ ∧ w.cell? ⟨b, off + i, none⟩ = some (V i)

/-- .. of pairs: element i takes two cells. -/
def Prs (w : World) (A : Option Addr) (xs : List (Int × Int)) : Prop :=
  ∀ i, i < xs.length → ∃ b off, A = some ⟨b, off, none⟩ ∧ w.cell? ⟨b, off + i * 2, none⟩ = some (.int .i64 (fa xs i)) ∧ w.cell? ⟨b, off + i * 2 + 1, none⟩ = some (.int .i64 (sa xs i))

theorem Cells.below {w w' : World} {A : Option Addr} {n : Nat} {V : Nat → Value} (h : Cells w A n V) (hb : Below w.heap.size w w') : Cells w' A n V := by
  intro i hi
  obtain ⟨b, off, hA, h0⟩ := h i hi
  exact ⟨b, off, hA, by rw [hb.cell (cell_lt h0), h0]⟩
theorem Cells.drewN {w : World} {A : Option Addr} {n : Nat} {V : Nat → Value} (h : Cells w A n V) (m : Nat) : Cells (w.drewN m) A n V := h
theorem Prs.below {w w' : World} {A : Option Addr} {xs : List (Int × Int)} (h : Prs w A xs) (hb : Below w.heap.size w w') : Prs w' A xs := by
  intro i hi
  obtain ⟨b, off, hA, h0, h1⟩ := h i hi
  exact ⟨b, off, hA, by rw [hb.cell (cell_lt h0), h0], by rw [hb.cell (cell_lt h1), h1]⟩
theorem Prs.drewN {w : World} {A : Option Addr} {xs : List (Int × Int)} (h : Prs w A xs) (m : Nat) : Prs (w.drewN m) A xs := h

theorem cells_of_row {w : World} {b n : Nat} {t : TypeId} {V : Nat → Value} (h : w.rowIs b t n V) : Cells w (some ⟨b, 0, none⟩) n V :=
  fun i hi => ⟨b, 0, rfl, by rw [Nat.zero_add]; exact h.cell hi⟩

theorem dr2 (w : World) (a b : Nat) : ∃ m, (w.drewN a).drewN b = w.drewN m := ⟨_, by rw [World.drewN_drewN]⟩
theorem dr3 (w : World) (a b c : Nat) : ∃ m, ((w.drewN a).drewN b).drewN c = w.drewN m := ⟨_, by rw [World.drewN_drewN, World.drewN_drewN]⟩
theorem rowIs_drewN {w : World} {b n : Nat} {t : TypeId} {V : Nat → Value} (h : w.rowIs b t n V) (m : Nat) : (w.drewN m).rowIs b t n V := h

/-- The first r cells of V, z behind them. -/
def upto (r : Nat) (V : Nat → Value) (z : Value) : Nat → Value := fun i => if i < r then V i else z

theorem upto_set {w : World} {b n : Nat} {t : TypeId} {V : Nat → Value} {z : Value} {r : Nat} (h : w.rowIs b t n (upto r V z)) : (w.setCell ⟨b, r, none⟩ (V r)).rowIs b t n (upto (r + 1) V z) := by
  refine (h.set r _).congr fun j _ => ?_
  unfold upto
  by_cases e : j = r
  · subst e; rw [if_pos rfl, if_pos (by omega)]
  · rw [if_neg e]
    by_cases hlt : j < r
    · rw [if_pos hlt, if_pos (by omega)]
    · rw [if_neg hlt, if_neg (by omega)]
theorem upto_full {w : World} {b n : Nat} {t : TypeId} {V : Nat → Value} {z : Value} (h : w.rowIs b t n (upto n V z)) : w.rowIs b t n V :=
  h.congr fun j hj => by unfold upto; rw [if_pos hj]
theorem upto_zero {w : World} {b n : Nat} {t : TypeId} {V : Nat → Value} {z : Value} (h : w.rowIs b t n (fun _ => z)) : w.rowIs b t n (upto 0 V z) :=
  h.congr fun j hj => by unfold upto; rw [if_neg (by omega)]
theorem upto_at {w : World} {b n : Nat} {t : TypeId} {V : Nat → Value} {z : Value} {r : Nat} (h : w.rowIs b t n (upto r V z)) (hr : r < n) : w.cell? ⟨b, r, none⟩ = some z := by
  have := h.cell hr
  unfold upto at this
  rwa [if_neg (Nat.lt_irrefl _)] at this

/-- A copy in a new block. -/
structure Copy (w w' : World) (t : TypeId) (n : Nat) (V : Nat → Value) : Prop where
  below : Below w.heap.size w w'
  size : w'.heap.size = w.heap.size + 1
  row : w'.rowIs w.heap.size t n V
end Go.Proofs.Qxb6605238a
