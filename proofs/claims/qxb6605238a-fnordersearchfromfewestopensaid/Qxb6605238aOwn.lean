import Derived.Test.Qxb6605238aClones
namespace Go.Proofs.Qxb6605238a
open Go.RowKit Go.Deep
set_option linter.unusedVariables false
set_option linter.unusedSimpArgs false

/-- The slice value v, nil or in memory of the call's own from 'base' on, holds the numbers zs. -/
def OwnI (w : World) (base : Nat) (v : Value) (zs : List Int) : Prop := w.ownsRow base 3 1 v zs.length (zs.map (Value.int .i64))

theorem OwnI.nil (w : World) (base : Nat) : OwnI w base (.slice none 0 0) [] := World.ownsRow_nil _ _ _ _
theorem OwnI.alloc {w : World} {base : Nat} {v : Value} {zs : List Int} (h : OwnI w base v zs) (o : Obj) : OwnI (w.alloc o) base v zs := World.ownsRow.alloc h o
theorem OwnI.drewN {w : World} {base : Nat} {v : Value} {zs : List Int} (h : OwnI w base v zs) (m : Nat) : OwnI (w.drewN m) base v zs := h
theorem OwnI.setBelow {w : World} {base : Nat} {v : Value} {zs : List Int} (h : OwnI w base v zs) {a : Addr} (ha : a.block < base) (u : Value) : OwnI (w.setCell a u) base v zs := ownsRow_setCell_below h ha u

/-- A store into a block of another element type. -/
theorem OwnI.setOther {w : World} {base : Nat} {v : Value} {zs : List Int} (h : OwnI w base v zs) {a : Addr} (ha : v.ownBlock ≠ some a.block) (u : Value) : OwnI (w.setCell a u) base v zs := by
  refine World.ownsRow.kept (row := some a.block) h ⟨rfl, rfl, rfl, by simp [World.setCell], fun k hk hne => ?_⟩ (Or.inr ha)
  exact Below.heap_setCell _ _ _ _ (fun e => hne (by rw [e]))

theorem OwnI.shape {w : World} {base : Nat} {v : Value} {zs : List Int} (h : OwnI w base v zs) : ∃ A cap, v = .slice A zs.length cap ∧ (0 < zs.length → ∃ g, A = some ⟨g, 0, none⟩) ∧ (A = none → cap = 0) ∧ zs.length ≤ cap ∧ cap ≤ maxLen := by
  rcases h.2 with ⟨h1, h2⟩ | ⟨g, cap, cur, h1, _, _, h3, h4, _⟩
  · exact ⟨none, 0, by rw [h1, h2], fun h => by omega, fun _ => rfl, by omega, Nat.zero_le _⟩
  · exact ⟨some ⟨g, 0, none⟩, cap, h1, fun _ => ⟨g, rfl⟩, fun h => (by cases h), h3, h4⟩

theorem OwnI.cell {w : World} {base g cap n : Nat} {zs : List Int} (h : OwnI w base (.slice (some ⟨g, 0, none⟩) n cap) zs) {j : Nat} (hj : j < zs.length) : w.cell? ⟨g, j, none⟩ = some (.int .i64 (iz zs j)) := by
  rcases h.2 with ⟨h1, _⟩ | ⟨g', cap', cur, h1, _, hg, _, _, _, htake⟩
  · cases h1
  · simp only [Value.slice.injEq, Option.some.injEq, Addr.mk.injEq, and_true, true_and] at h1
    obtain ⟨rfl, rfl, rfl⟩ := h1
    have h2 : (zs.map (Value.int .i64))[j]? = some (.int .i64 (iz zs j)) := by simp [iz, List.getD, hj]
    rw [← htake, List.getElem?_take, if_pos (by omega)] at h2
    simp only [World.cell?, hg]
    simpa using h2

theorem OwnI.cells {w : World} {base : Nat} {v : Value} {zs : List Int} (h : OwnI w base v zs) : ∃ A cap, v = .slice A zs.length cap ∧ Cells w A zs.length (fun i => .int .i64 (iz zs i)) ∧ (A = none → zs.length = 0) := by
  obtain ⟨A, cap, rfl, h1, h2, h3, _⟩ := h.shape
  refine ⟨A, cap, rfl, fun i hi => ?_, fun hA => ?_⟩
  · obtain ⟨g, rfl⟩ := h1 (by omega)
    exact ⟨g, 0, rfl, by rw [Nat.zero_add]; exact h.cell hi⟩
  · have := h2 hA
    omega

theorem OwnI.frozen {w : World} {base g cap n : Nat} {zs : List Int} (h : OwnI w base (.slice (some ⟨g, 0, none⟩) n cap) zs) (j : Nat) : w.frozen? ⟨g, j, none⟩ = false := by
  rcases h.2 with ⟨h1, _⟩ | ⟨g', cap', cur, h1, _, hg, _, _, _, htake⟩
  · cases h1
  · simp only [Value.slice.injEq, Option.some.injEq, Addr.mk.injEq, and_true, true_and] at h1
    obtain ⟨rfl, _⟩ := h1
    simp [World.frozen?, hg]

theorem OwnI.pop {w : World} {base g cap n : Nat} {zs : List Int} {z : Int} (h : OwnI w base (.slice (some ⟨g, 0, none⟩) n cap) (zs ++ [z])) : OwnI w base (.slice (some ⟨g, 0, none⟩) zs.length cap) zs := by
  have hn : n = zs.length + 1 := by
    obtain ⟨A, c, h1, _⟩ := h.shape
    simp at h1
    omega
  subst hn
  have h' : w.ownsRow base 3 1 (.slice (some ⟨g, 0, none⟩) (zs.length + 1) cap) (zs.length + 1) (zs.map (Value.int .i64) ++ [Value.int .i64 z]) := by
    have := h
    unfold OwnI at this
    simpa using this
  exact ownsRow_pop (by simp) h'

theorem wpList_appI {ops : Array Oper} {rest : List Oper} {o : Oper} {a : Act} {Q : Exit → Act → World → Prop} (w : World) (s x : Operand) (p : Int) (out : List Int) (base : Nat)
    (hn : out.length ≤ 1048576) (v : Value) (ad : Addr)
    (hgd : o.guard = none) (ho : o.op = .call { callee := .builtin .append, args := #[s, x], argTypes := #[24, 24] })
    (hs : a.eval s = v) (hx : a.eval x = .slice (some ad) 1 1)
    (hown : OwnI w base v out) (h0 : w.cell? ad = some (.int .i64 p)) (hbase : base ≤ w.heap.size)
    (h : ∀ v' w', OwnI w' base v' (out ++ [p]) → w.grownBy w' v.ownBlock → wpList Try.prog ops Q rest (a.put o.dst v') w') :
    wpList Try.prog ops Q (o :: rest) a w := by
  obtain ⟨i, hi, hzz⟩ := Option.map_eq_some_iff.1 info3
  simp only [Prod.mk.injEq] at hzz
  obtain ⟨hz, hsz, hb⟩ := hzz
  refine wpList_append_own w hgd s x 24 ho base 3 i _ 1 8 Try.underlying24 hi hz hsz hb rfl (by decide) v out.length _ hs hown ad 1 1 [.int .i64 p] hx rfl ?_ ?_ ?_ ?_ hbase ?_
  · intro j u hj
    match j, hj with
    | 0, hj => simp at hj; subst hj; simpa [Addr.add] using h0
  · intro u hu
    simp at hu
    subst hu
    rfl
  · unfold maxLen; omega
  · omega
  · intro v' w' h1 h2 h3
    refine h v' w' ?_ h2
    unfold OwnI
    rw [List.length_append, List.map_append]
    exact h1

theorem OwnI.below {w w1 : World} {base B : Nat} {v : Value} {out : List Int} (h : OwnI w base v out) (hg : w.grownBy w1 v.ownBlock) {w0 : World} (hb : Below B w0 w) (hB : B ≤ base) (hB2 : B ≤ w.heap.size) : Below B w0 w1 := by
  refine hb.grown hg hB2 (fun k hk => ?_)
  have := (World.ownsRow.lt h k hk).1
  omega

theorem OwnI.cellKept {w w1 : World} {base : Nat} {v : Value} {out : List Int} (h : OwnI w base v out) (hg : w.grownBy w1 v.ownBlock) {a : Addr} {u : Value} (hc : w.cell? a = some u) (hlt : a.block < base) : w1.cell? a = some u := by
  refine hg.cell hc (fun hk => ?_)
  have := (World.ownsRow.lt h a.block hk.symm).1
  omega

theorem OwnI.rowKept {w w1 : World} {base : Nat} {v : Value} {out : List Int} (h : OwnI w base v out) (hg : w.grownBy w1 v.ownBlock) {b n : Nat} {t : TypeId} {V : Nat → Value} (hc : w.rowIs b t n V) (hlt : b < base) : w1.rowIs b t n V := by
  refine hc.of_block (hg.block b hc.lt (fun hk => ?_))
  have := (World.ownsRow.lt h b hk.symm).1
  omega
end Go.Proofs.Qxb6605238a
