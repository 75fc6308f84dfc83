import Derived.Test.Qxb6605238aMem
import Derived.Test.Qxb6605238aRows
import Derived.OpenShut
import Derived.Deep.Slices
import Derived.Deep.SlicePairs
import Derived.Carry
namespace Go.Proofs.Qxb6605238a
open Go.ChangeShapes Go.WideShapes Go.ChangeAt Go.RowKit Go.Deep
set_option linter.unusedVariables false
set_option linter.unusedSimpArgs false

theorem ownTry : ownKnob Try.prog.godebug = none := by kernel_rfl
theorem laidTry : laidOutB Try.prog = true := by kernel_rfl
theorem cells24 : Try.prog.cellsOf 24 = 1 := by kernel_rfl
theorem cells35 : Try.prog.cellsOf 35 = 2 := by kernel_rfl
theorem cells3 : Try.prog.cellsOf 3 = 1 := by kernel_rfl
theorem cells4 : Try.prog.cellsOf 4 = 1 := by kernel_rfl

section
variable {H : Type} {enc : TypeId × Value → H}

/-- All arguments read behind the call as they did. -/
theorem below_trodAll {P : Program} (hl : laidOutB P = true) {W W' : World} (hb : Below W.heap.size W W') : ∀ (ts : List TypeId), (∀ t ∈ ts, P.readableRec t = true ∧ t < P.types.size) → ∀ (vs : List Value) (ds : List (DataW H)) (ps : List MemPlace),
    DataW.TrodAll enc P W 0 (fun _ => true) true ts vs ds ps → (∀ x ∈ ps, x.block < W.heap.size) → DataW.TrodAll enc P W' 0 (fun b => decide (b < W.heap.size)) true ts vs ds ps := by
  intro ts
  induction ts with
  | nil =>
    intro _ vs ds ps h _
    obtain ⟨rfl, rfl, rfl⟩ := trodAll_nil h
    exact trodAll_mk0
  | cons t ts ih =>
    intro hts vs ds ps h hlt
    obtain ⟨v, vs', d, ds', p, q, rfl, rfl, rfl, h0, r0⟩ := trodAll_cons h
    obtain ⟨h1, h2⟩ := hts t (by simp)
    exact trodAll_cons_mk (Below.trod hl h1 h2 h0 hb (fun x hx => hlt x (by simp [hx]))) (ih (fun t' ht' => hts t' (by simp [ht'])) vs' ds' q r0 (fun x hx => hlt x (by simp [hx])))

theorem spot_of {w : World} {b off : Nat} {s : Option Nat} {v : Value} (h : w.cell? ⟨b, off, s⟩ = some v) : s = none := World.cell?_spot h

/-- Cells that lie behind an address. -/
theorem cells_mk {W : World} {a : Addr} {n m : Nat} {V : Nat → Value} (hnm : n ≤ m) (h : ∀ i, i < m → W.cell? (a.add i) = some (V i)) : Cells W (some a) n V := by
  intro i hi
  obtain ⟨b, off, s⟩ := a
  have h00 := h 0 (by omega)
  have hs : s = none := spot_of (show W.cell? ⟨b, off, s⟩ = _ from h00)
  subst hs
  have hc := h i (by omega)
  rw [add_plain] at hc
  exact ⟨b, off, rfl, hc⟩

/-- A slice of integers. -/
theorem open_ints1 {W : World} {fuel : Nat} {v : Value} {x : DataW H × List MemPlace} (h : DataW.trod enc Try.prog W 0 (fun _ => true) true fuel 24 [v] = some x) :
    ∃ (A : Option Addr) (n c : Nat) (z : Nat → Int), v = .slice A n c ∧ Cells W A n (fun i => .int .i64 (z i)) ∧ (A = none → n = 0 ∧ c = 0) := by
  rcases open_slice1 Try.underlying24 cells3 h with ⟨hcs, _⟩ | ⟨a, len, cap, m, n, V, D, Pl, hcs, _, hl, _, hm, _, hx⟩
  · have : v = .slice none 0 0 := by simpa using hcs
    subst this
    exact ⟨none, 0, 0, fun _ => 0, rfl, fun i hi => absurd hi (Nat.not_lt_zero _), fun _ => ⟨rfl, rfl⟩⟩
  · have : v = .slice (some a) len cap := by simpa using hcs
    subst this
    simp only [if_true] at hm
    have each : ∀ i, i < m → ∃ y : Int, W.cell? (a.add i) = some (.int .i64 y) := by
      intro i hi
      obtain ⟨h1, h2⟩ := hx i hi
      obtain ⟨y, hy, _⟩ := DataW.trod_int Try.underlying3 h2
      exact ⟨y, by rw [h1]; simpa using hy⟩
    obtain ⟨Y, hY⟩ := choose_lt each
    exact ⟨some a, len, cap, Y, rfl, cells_mk (by omega) hY, fun h => by cases h⟩

/-- A slice of bools. -/
theorem open_bools1 {W : World} {fuel : Nat} {v : Value} {x : DataW H × List MemPlace} (h : DataW.trod enc Try.prog W 0 (fun _ => true) true fuel 23 [v] = some x) :
    ∃ (A : Option Addr) (n c : Nat) (z : Nat → Bool), v = .slice A n c ∧ Cells W A n (fun i => .bool (z i)) ∧ (A = none → n = 0 ∧ c = 0) := by
  rcases open_slice1 Try.underlying23 cells4 h with ⟨hcs, _⟩ | ⟨a, len, cap, m, n, V, D, Pl, hcs, _, hl, _, hm, _, hx⟩
  · have : v = .slice none 0 0 := by simpa using hcs
    subst this
    exact ⟨none, 0, 0, fun _ => false, rfl, fun i hi => absurd hi (Nat.not_lt_zero _), fun _ => ⟨rfl, rfl⟩⟩
  · have : v = .slice (some a) len cap := by simpa using hcs
    subst this
    simp only [if_true] at hm
    have each : ∀ i, i < m → ∃ y : Bool, W.cell? (a.add i) = some (.bool y) := by
      intro i hi
      obtain ⟨h1, h2⟩ := hx i hi
      obtain ⟨y, hy, _⟩ := DataW.trod_bool Try.underlying4 h2
      exact ⟨y, by rw [h1]; simpa using hy⟩
    obtain ⟨Y, hY⟩ := choose_lt each
    exact ⟨some a, len, cap, Y, rfl, cells_mk (by omega) hY, fun h => by cases h⟩

/-- A slice of arcs. -/
theorem open_arcs1 {W : World} {fuel : Nat} {v : Value} {x : DataW H × List MemPlace} (h : DataW.trod enc Try.prog W 0 (fun _ => true) true fuel 34 [v] = some x) :
    ∃ (A : Option Addr) (xs : List (Int × Int)) (c : Nat), v = .slice A xs.length c ∧ Prs W A xs ∧ (A = none → xs = [] ∧ c = 0) := by
  rcases open_slice_pairs Try.underlying34 Try.underlying35 cells35 rfl rfl cells3 cells3 h with ⟨hcs, _⟩ | ⟨a, len, cap, m, n, V0, V1, D0, D1, P0, P1, hcs, _, hl, _, hm, _, hx⟩
  · have : v = .slice none 0 0 := by simpa using hcs
    subst this
    exact ⟨none, [], 0, rfl, fun i hi => absurd hi (Nat.not_lt_zero _), fun _ => ⟨rfl, rfl⟩⟩
  · have : v = .slice (some a) len cap := by simpa using hcs
    subst this
    simp only [if_true] at hm
    have each : ∀ i, i < len → ∃ y : Int × Int, W.cell? (a.add (i * 2)) = some (.int .i64 y.1) ∧ W.cell? (a.add (i * 2 + 1)) = some (.int .i64 y.2) := by
      intro i hi
      obtain ⟨h1, h2, h3, h4⟩ := hx i (by omega)
      obtain ⟨p, hp, _⟩ := DataW.trod_int Try.underlying3 h3
      obtain ⟨q, hq, _⟩ := DataW.trod_int Try.underlying3 h4
      exact ⟨(p, q), by rw [h1]; simpa using hp, by rw [h2]; simpa using hq⟩
    obtain ⟨Y, hY⟩ := choose_lt each
    have hgl : ((List.range len).map Y).length = len := by simp
    refine ⟨some a, (List.range len).map Y, cap, by rw [hgl], ?_, fun h => by cases h⟩
    intro i hi
    rw [hgl] at hi
    obtain ⟨b, off, s⟩ := a
    have h00 := (hY 0 (by omega)).1
    have hs : s = none := by
      have e : (⟨b, off, s⟩ : Addr).add (0 * 2) = ⟨b, off, s⟩ := rfl
      rw [e] at h00
      exact spot_of h00
    subst hs
    have hp : ((List.range len).map Y).getD i (0, 0) = Y i := by simp [List.getD, hi]
    obtain ⟨g0, g1⟩ := hY i hi
    refine ⟨b, off, rfl, ?_, ?_⟩
    · unfold fa; rw [hp, ← g0, add_plain]
    · unfold sa; rw [hp, ← g1, add_plain]; rfl

/-- From an argument's reading to that of its one cell. -/
theorem one_cell {P : Program} {W : World} {t : TypeId} {v : Value} {d : DataW H} {ps : List MemPlace} (hv : ∃ a len cap, v = .slice a len cap) (h : DataW.Trod enc P W 0 (fun _ => true) true t v d ps) : ∃ fuel, DataW.trod enc P W 0 (fun _ => true) true fuel t [v] = some (d, ps) := by
  obtain ⟨a0, l0, c0, rfl⟩ := hv
  obtain ⟨fuel, hf⟩ := h
  exact ⟨fuel, by simpa [Value.cells] using hf⟩
end
end Go.Proofs.Qxb6605238a
