import Derived.Test.Qxb6604105aMem
import Derived.Test.Qxb6604105aRows
import Derived.OpenShut
import Derived.Deep.Slices
import Derived.Carry
namespace Go.Proofs.Qxb6604105a
open Go.ChangeShapes Go.WideShapes Go.ChangeAt Go.RowKit Go.Deep
set_option linter.unusedVariables false
set_option linter.unusedSimpArgs false

theorem ownTry : ownKnob Try.prog.godebug = none := by kernel_rfl
theorem laidTry : laidOutB Try.prog = true := by kernel_rfl
theorem cells26 : Try.prog.cellsOf 26 = 1 := by kernel_rfl
theorem cells33 : Try.prog.cellsOf 33 = 2 := by kernel_rfl
theorem cells3 : Try.prog.cellsOf 3 = 1 := by kernel_rfl

section
variable {H : Type} {enc : TypeId × Value → H}

/-- All arguments read behind the call as they did. -/
theorem below_trodAll {P : Program} (hl : laidOutB P = true) {W W' : World} (hb : Below W.heap.size W W') : ∀ (ts : List TypeId), (∀ t ∈ ts, P.readableRec t = true ∧ t < P.types.size) → ∀ (vs : List Value) (ds : List (DataW H)) (ps : List MemPlace),
    DataW.TrodAll enc P W 0 (fun _ => true) true ts vs ds ps → (∀ x ∈ ps, x.block < W.heap.size) → DataW.TrodAll enc P W' 0 (fun b => decide (b < W.heap.size)) true ts vs ds ps := by
  intro ts
  induction ts with
  | nil =>
    intro _ vs ds ps h _
    obtain ⟨rfl, rfl, rfl⟩ := trodAll_nil h
    exact trodAll_mk0
  | cons t ts ih =>
    intro hts vs ds ps h hlt
    obtain ⟨v, vs', d, ds', p, q, rfl, rfl, rfl, h0, r0⟩ := trodAll_cons h
    obtain ⟨h1, h2⟩ := hts t (by simp)
    exact trodAll_cons_mk (Below.trod hl h1 h2 h0 hb (fun x hx => hlt x (by simp [hx]))) (ih (fun t' ht' => hts t' (by simp [ht'])) vs' ds' q r0 (fun x hx => hlt x (by simp [hx])))

theorem spot_of {w : World} {b off : Nat} {s : Option Nat} {v : Value} (h : w.cell? ⟨b, off, s⟩ = some v) : s = none := World.cell?_spot h

/-- One pair. -/
theorem open_pair {W : World} {fuel : Nat} {cs : List Value} {x : DataW H × List MemPlace} (h : DataW.trod enc Try.prog W 0 (fun _ => true) true fuel 33 cs = some x) (hl : cs.length = 2) : ∃ p q : Int, cs = [.int .i64 p, .int .i64 q] := by
  obtain ⟨xs, m, _, _, _, hxl, he⟩ := DataW.trod_array Try.underlying33 h
  match cs, hl with
  | [c0, c1], _ =>
    have h0 := he 0 (by omega)
    have h1 := he 1 (by omega)
    simp only [cells3] at h0 h1
    simp only [Nat.zero_mul, Nat.one_mul, List.drop_zero, List.drop_succ_cons, List.take_succ_cons, List.take_zero, List.take_nil] at h0 h1
    match xs, hxl with
    | [y0, y1], _ =>
      simp only [List.getElem?_cons_zero, List.getElem?_cons_succ] at h0 h1
      obtain ⟨p, hp, _⟩ := DataW.trod_int Try.underlying3 h0
      obtain ⟨q, hq, _⟩ := DataW.trod_int Try.underlying3 h1
      exact ⟨p, q, by simp_all⟩

/-- A slice of pairs. -/
theorem open_prs {W : World} {fuel : Nat} {v : Value} {x : DataW H × List MemPlace} (h : DataW.trod enc Try.prog W 0 (fun _ => true) true fuel 26 [v] = some x) :
    ∃ (A : Option Addr) (xs : List (Int × Int)) (c : Nat), v = .slice A xs.length c ∧ Prs W A xs ∧ (A = none → xs = []) := by
  rcases open_slice Try.underlying26 h with ⟨hcs, _⟩ | ⟨a, len, cap, m, n, D, Pl, hcs, _, hl, _, hm, _, hx⟩
  · have : v = .slice none 0 0 := by simpa using hcs
    subst this
    exact ⟨none, [], 0, rfl, Prs.nil _ _, fun _ => rfl⟩
  · have : v = .slice (some a) len cap := by simpa using hcs
    subst this
    rw [cells33] at hx
    simp only [if_true] at hm
    have each : ∀ i, i < len → ∃ y : Int × Int, W.cell? (a.add (i * 2)) = some (.int .i64 y.1) ∧ W.cell? (a.add (i * 2 + 1)) = some (.int .i64 y.2) := by
      intro i hi
      obtain ⟨cs', h1, h2⟩ := hx i (by omega)
      obtain ⟨_, hlen, hcell⟩ := World.cells?_some h1
      obtain ⟨p, q, rfl⟩ := open_pair h2 hlen
      have e0 := hcell 0 (by omega)
      have e1 := hcell 1 (by omega)
      rw [add_add] at e0 e1
      exact ⟨(p, q), by simpa using e0, by simpa using e1⟩
    obtain ⟨Y, hY⟩ := choose_lt each
    have hgl : ((List.range len).map Y).length = len := by simp
    refine ⟨some a, (List.range len).map Y, cap, by rw [hgl], ?_, fun h => by cases h⟩
    intro i hi
    rw [hgl] at hi
    obtain ⟨b, off, s⟩ := a
    have h00 := (hY 0 (by omega)).1
    have hs : s = none := by
      have e : (⟨b, off, s⟩ : Addr).add (0 * 2) = ⟨b, off, s⟩ := rfl
      rw [e] at h00
      exact spot_of h00
    subst hs
    have hp : ((List.range len).map Y).getD i (0, 0) = Y i := by simp [List.getD, hi]
    obtain ⟨g0, g1⟩ := hY i hi
    refine ⟨b, off, rfl, ?_, ?_⟩
    · unfold fa; rw [hp, ← g0, add_plain]
    · unfold sa; rw [hp, ← g1, add_plain]; rfl

/-- A slice of slices of pairs. -/
theorem open_rng {W : World} {v : Value} {d : DataW H} {ps : List MemPlace} (hv : ∃ a len cap, v = .slice a len cap) (h : DataW.Trod enc Try.prog W 0 (fun _ => true) true 22 v d ps) :
    ∃ (A : Option Addr) (n cap : Nat) (R : Nat → List (Int × Int)) (IA : Nat → Option Addr) (C : Nat → Nat), v = .slice A n cap ∧ Rng W A n R IA C := by
  obtain ⟨a0, l0, c0, rfl⟩ := hv
  obtain ⟨fuel, hf⟩ := h
  have hf' : DataW.trod enc Try.prog W 0 (fun _ => true) true fuel 22 [.slice a0 l0 c0] = some (d, ps) := by simpa [Value.cells] using hf
  rcases open_slice1 Try.underlying22 cells26 hf' with ⟨hcs, _⟩ | ⟨a, len, cap, m, n, V, D, Pl, hcs, _, hl, _, hm, _, hx⟩
  · have : Value.slice a0 l0 c0 = .slice none 0 0 := by simpa using hcs
    rw [this]
    exact ⟨none, 0, 0, fun _ => [], fun _ => none, fun _ => 0, rfl, fun i hi => absurd hi (Nat.not_lt_zero _), fun i hi => absurd hi (Nat.not_lt_zero _), fun i hi => absurd hi (Nat.not_lt_zero _)⟩
  · have : Value.slice a0 l0 c0 = .slice (some a) len cap := by simpa using hcs
    rw [this]
    simp only [if_true] at hm
    have each : ∀ i, i < len → ∃ y : Option Addr × List (Int × Int) × Nat, V i = .slice y.1 y.2.1.length y.2.2 ∧ Prs W y.1 y.2.1 ∧ (y.1 = none → y.2.1 = []) := by
      intro i hi
      obtain ⟨A, xs, c, h1, h2, h3⟩ := open_prs (hx i (by omega)).2
      exact ⟨(A, xs, c), h1, h2, h3⟩
    obtain ⟨Y, hY⟩ := choose_lt each
    refine ⟨some a, len, cap, fun i => (Y i).2.1, fun i => (Y i).1, fun i => (Y i).2.2, rfl, fun i hi => ?_, fun i hi => (hY i hi).2.1, fun i hi => (hY i hi).2.2⟩
    have hc := (hx i (by omega)).1
    rw [(hY i hi).1] at hc
    obtain ⟨b, off, s⟩ := a
    have h00 := (hx 0 (by omega)).1
    have hs : s = none := spot_of (show W.cell? ⟨b, off, s⟩ = _ from h00)
    subst hs
    rw [add_plain] at hc
    exact ⟨b, off, rfl, hc⟩

end
end Go.Proofs.Qxb6604105a
