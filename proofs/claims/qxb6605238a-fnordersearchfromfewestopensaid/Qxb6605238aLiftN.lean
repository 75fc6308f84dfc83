import Derived.Test.Qxb6605238aLift
import Derived.Test.Qxb6605238aSimple
namespace Go.Proofs.Qxb6605238a
open Go.ChangeShapes Go.WideShapes Go.ChangeAt Go.RowKit Go.Deep
set_option linter.unusedVariables false
set_option linter.unusedSimpArgs false

section
variable {H : Type} {enc : TypeId × Value → H}

theorem cells_congr {w : World} {A : Option Addr} {n : Nat} {V V' : Nat → Value} (h : Cells w A n V) (e : ∀ i, i < n → V i = V' i) : Cells w A n V' := by
  intro i hi
  obtain ⟨b, off, hA, h0⟩ := h i hi
  exact ⟨b, off, hA, by rw [h0, e i hi]⟩

/-- A slice of slices of integers. -/
theorem open_nest1 {W : World} {fuel : Nat} {v : Value} {x : DataW H × List MemPlace} (h : DataW.trod enc Try.prog W 0 (fun _ => true) true fuel 22 [v] = some x) :
    ∃ (A : Option Addr) (n c : Nat) (zz : Nat → List Int), v = .slice A n c ∧ NbZ W A n zz := by
  rcases open_slice1 Try.underlying22 cells24 h with ⟨hcs, _⟩ | ⟨a, len, cap, m, n, V, D, Pl, hcs, _, hl, _, hm, _, hx⟩
  · have : v = .slice none 0 0 := by simpa using hcs
    subst this
    exact ⟨none, 0, 0, fun _ => [], rfl, fun i hi => absurd hi (Nat.not_lt_zero _)⟩
  · have : v = .slice (some a) len cap := by simpa using hcs
    subst this
    simp only [if_true] at hm
    have each : ∀ i, i < m → ∃ y : Option Addr × Nat × Nat × (Nat → Int), W.cell? (a.add i) = some (.slice y.1 y.2.1 y.2.2.1) ∧ Cells W y.1 y.2.1 (fun i => .int .i64 (y.2.2.2 i)) ∧ (y.1 = none → y.2.1 = 0 ∧ y.2.2.1 = 0) := by
      intro i hi
      obtain ⟨h1, h2⟩ := hx i hi
      obtain ⟨A', n', c', z, e, hC, hnil⟩ := open_ints1 h2
      exact ⟨(A', n', c', z), by rw [h1, e], hC, hnil⟩
    obtain ⟨Y, hY⟩ := choose_lt each
    refine ⟨some a, len, cap, fun i => (List.range (Y i).2.1).map (Y i).2.2.2, rfl, fun i hi => ?_⟩
    obtain ⟨b, off, s⟩ := a
    have h00 := (hY 0 (by omega)).1
    have hs : s = none := spot_of (show W.cell? ⟨b, off, s⟩ = _ from h00)
    subst hs
    obtain ⟨g0, g1, g2⟩ := hY i (by omega)
    rw [add_plain] at g0
    have hlen : ((List.range (Y i).2.1).map (Y i).2.2.2).length = (Y i).2.1 := by simp
    refine ⟨b, off, (Y i).1, (Y i).2.2.1, rfl, by rw [hlen]; exact g0, ?_, by rw [hlen]; exact g2⟩
    rw [hlen]
    exact cells_congr g1 (fun j hj => by simp [iz, List.getD, hj])
end
end Go.Proofs.Qxb6605238a
