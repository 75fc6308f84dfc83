import Derived.Test.Qxb6605238aZZ3
import Derived.Test.Qxb6605238aNest
import Derived.Test.Qxb6605238aBy5
import Derived.Test.Qxb6605238aClosed
namespace Go.Proofs.Qxb6605238a
open Go.RowKit Go.Deep
set_option linter.unusedVariables false
set_option linter.unusedSimpArgs false

/-! ### THE LAW's PLAIN SIDE -/
def adjz (zz : Nat → List Int) (v : Nat) : List Nat := (zz v).map Int.toNat

variable {n : Nat} {zz : Nat → List Int}

theorem adjz_eq (h : GrZ n zz) {v : Nat} (hv : v < n) : zz v = zl (adjz zz v) := by
  unfold adjz zl
  rw [List.map_map]
  conv => lhs; rw [← List.map_id (zz v)]
  apply List.map_congr_left
  intro x hx
  have := ((h.1 v hv).1 x hx).1
  simp
  omega

theorem adjz_gr (h : GrZ n zz) : Gr n (adjz zz) := by
  refine ⟨fun v hv x hx => ?_, fun v hv hx => ?_, fun v hv => ?_, fun v hv x hx => ?_⟩
  · obtain ⟨z, hz, rfl⟩ := List.mem_map.1 hx
    have := (h.1 v hv).1 z hz
    omega
  · obtain ⟨z, hz, e⟩ := List.mem_map.1 hx
    have := (h.1 v hv).1 z hz
    omega
  · unfold adjz List.Nodup
    rw [List.pairwise_map]
    refine List.Pairwise.imp_of_mem ?_ (h.1 v hv).2
    intro a b ha hb hne e
    have h1 := (h.1 v hv).1 a ha
    have h2 := (h.1 v hv).1 b hb
    omega
  · obtain ⟨z, hz, rfl⟩ := List.mem_map.1 hx
    exact List.mem_map.2 ⟨(v : Int), h.2 v hv z hz, by simp⟩

theorem adjz_len (v : Nat) : (adjz zz v).length = (zz v).length := by simp [adjz]

theorem CN.congr {w wr : World} {k : Nat} {zz zz' : Nat → List Int} {V : Nat → Value} (h : CN w wr n zz k V) (e : ∀ v, v < k → zz v = zz' v) : CN w wr n zz' k V := by
  refine ⟨h.below, h.row, fun v hv => ?_⟩
  rw [← e v hv]
  exact h.done v hv

/-! ### Memory -/
theorem frm_of_below {w w' : World} (h : Below w.heap.size w w') : Frm (fun _ => False) w w' := ⟨h.os, h.tape, h.output, h.size, fun k hk _ => h.block k hk⟩
theorem OwnI.belowB {w w' : World} {base : Nat} {v : Value} {zs : List Int} (h : OwnI w base v zs) (hb : Below w.heap.size w w') : OwnI w' base v zs := (frm_of_below hb).own h (fun _ _ h => h)
theorem rowB {w w' : World} {b n : Nat} {t : TypeId} {V : Nat → Value} (h : w.rowIs b t n V) (hb : Below w.heap.size w w') : w'.rowIs b t n V := h.of_block (hb.block _ h.lt)
theorem Nb.belowB {w w' : World} {B G n : Nat} {adj : Nat → List Nat} (h : Nb w B G n adj) (hb : Below w.heap.size w w') : Nb w' B G n adj := h.frm (frm_of_below hb) (fun _ _ h => h)
theorem below_frm {B : Nat} {w0 w w' : World} {M : Nat → Prop} (h : Below B w0 w) (hB : B ≤ w.heap.size) (f : Frm M w w') (hm : ∀ k, k < B → ¬ M k) : Below B w0 w' :=
  ⟨f.os.trans h.os, f.tape.trans h.tape, f.output.trans h.output, Nat.le_trans h.size f.size, fun k hk => (f.block k (by omega) (hm k hk)).trans (h.block k hk)⟩
theorem below_tr {B : Nat} {w0 w w' : World} (h : Below B w0 w) (hB : B ≤ w.heap.size) (h' : Below w.heap.size w w') : Below B w0 w' := h.trans (h'.mono hB)

theorem own_of_row {w : World} {g n base : Nat} {V : Nat → Int} (h : w.rowIs g 3 n (fun i => .int .i64 (V i))) (hb : base ≤ g) (hn : n ≤ 1048576) : OwnI w base (.slice (some ⟨g, 0, none⟩) n n) ((List.range n).map V) := by
  obtain ⟨cur, hg, hcs, hcv⟩ := h
  refine ⟨by simp, Or.inr ⟨g, n, cur, by simp, hb, hg, by simp, by unfold maxLen; omega, by omega, ?_⟩⟩
  apply List.ext_getElem?
  intro j
  rw [List.getElem?_take]
  by_cases hj : j < n
  · rw [if_pos (by simpa using hj)]
    have := hcv j hj
    simp only [Array.getElem?_toList, this]
    simp [hj]
  · rw [if_neg (by simpa using hj), List.getElem?_eq_none]
    simp; omega

theorem cloneInts9_any (A : Option Addr) (cap n : Nat) (V : Nat → Int) (w : World) (hR : Cells w A n (fun i => .int .i64 (V i))) (hn2 : n ≤ 1048576) (hnil : A = none → n = 0 ∧ cap = 0) :
    Calls Try.prog 9 #[.slice A n cap] w fun e w' => ∃ A' c', e = .returned (.slice A' n c') ∧ OwnI w' w.heap.size (.slice A' n c') ((List.range n).map V) ∧ Below w.heap.size w w' := by
  cases A with
  | none =>
    obtain ⟨rfl, rfl⟩ := hnil rfl
    refine (cloneInts9_nil w).mono ?_
    rintro e w' ⟨rfl, rfl⟩
    exact ⟨none, 0, rfl, OwnI.nil _ _, Below.refl _ _⟩
  | some a =>
    refine (cloneInts9 a cap n V w hR hn2).mono ?_
    rintro e w' ⟨rfl, hC⟩
    exact ⟨_, _, rfl, own_of_row hC.row (Nat.le_refl _) hn2, hC.below⟩

theorem range_iz (zs : List Int) : (List.range zs.length).map (iz zs) = zs := by
  apply List.ext_getElem
  · simp
  · intro i h1 h2
    simp [iz, List.getD, h2]

theorem cloneOwn (A : Option Addr) (cap n B : Nat) (zs : List Int) (w : World) (h : OwnI w B (.slice A n cap) zs) (hn2 : n ≤ 1048576) :
    Calls Try.prog 9 #[.slice A n cap] w fun e w' => ∃ A' c', e = .returned (.slice A' n c') ∧ OwnI w' w.heap.size (.slice A' n c') zs ∧ Below w.heap.size w w' := by
  have hn : n = zs.length := by
    obtain ⟨A1, c1, e, _⟩ := h.shape
    simp only [Value.slice.injEq] at e
    exact e.2.1
  subst hn
  obtain ⟨A1, c1, e, hc, _⟩ := h.cells
  simp only [Value.slice.injEq] at e
  obtain ⟨rfl, _, rfl⟩ := e
  have hs : A = none → zs.length = 0 ∧ cap = 0 := by
    obtain ⟨A2, c2, e, _, h3, h4, _⟩ := h.shape
    simp only [Value.slice.injEq] at e
    obtain ⟨rfl, _, rfl⟩ := e
    intro hA
    have := h3 hA
    omega
  refine (cloneInts9_any A cap zs.length (iz zs) w hc hn2 hs).mono ?_
  rintro e w' ⟨A', c', rfl, h1, h2⟩
  rw [range_iz] at h1
  exact ⟨A', c', rfl, h1, h2⟩
end Go.Proofs.Qxb6605238a
