import Derived.Test.Qxb6604105aTop
namespace Go.Proofs.Qxb6604105a
open Go.RowKit Go.Deep
set_option linter.unusedVariables false
set_option linter.unusedSimpArgs false

/-- The cells of a list of pairs. -/
def pc (xs : List (Int × Int)) : List Value := xs.flatMap fun p => [.int .i64 p.1, .int .i64 p.2]
theorem pc_append (xs ys : List (Int × Int)) : pc (xs ++ ys) = pc xs ++ pc ys := by simp [pc]
theorem pc_len (xs : List (Int × Int)) : (pc xs).length = xs.length * 2 := by
  induction xs with
  | nil => rfl
  | cons x xs ih => show (_ ++ pc xs).length = _; simp [ih]; omega
theorem pc_get0 (xs : List (Int × Int)) : ∀ i, i < xs.length → (pc xs)[i * 2]? = some (.int .i64 (fa xs i)) ∧ (pc xs)[i * 2 + 1]? = some (.int .i64 (sa xs i)) := by
  induction xs with
  | nil => intro i hi; exact absurd hi (Nat.not_lt_zero _)
  | cons x xs ih =>
    intro i hi
    show ([Value.int .i64 x.1, .int .i64 x.2] ++ pc xs)[i * 2]? = _ ∧ ([Value.int .i64 x.1, .int .i64 x.2] ++ pc xs)[i * 2 + 1]? = _
    cases i with
    | zero => simp [fa, sa]
    | succ i =>
      have := ih i (by simpa using hi)
      have e1 : (i + 1) * 2 = i * 2 + 1 + 1 := by omega
      constructor
      · rw [e1]; simp [fa] at this ⊢; exact this.1
      · rw [e1]; simp [sa] at this ⊢; exact this.2

/-- The slice value v, nil or in memory of the call's own from 'base' on, holds the pairs 'out'. -/
def Own (w : World) (base : Nat) (e : TypeId) (v : Value) (out : List (Int × Int)) : Prop :=
  w.ownsRow base e 2 v out.length (pc out) ∧ (out = [] → v = .slice none 0 0)

theorem Own.nil (w : World) (base : Nat) (e : TypeId) : Own w base e (.slice none 0 0) [] := ⟨World.ownsRow_nil _ _ _ _, fun _ => rfl⟩
theorem Own.alloc {w : World} {base : Nat} {e : TypeId} {v : Value} {out : List (Int × Int)} (h : Own w base e v out) (o : Obj) : Own (w.alloc o) base e v out := ⟨h.1.alloc o, h.2⟩

theorem wpList_app {ops : Array Oper} {rest : List Oper} {o : Oper} {a : Act} {Q : Exit → Act → World → Prop} (w : World) (s x : Operand) (t e : TypeId) (p q : Int) (out : List (Int × Int)) (base : Nat)
    (ht : Try.prog.underlying t = some (.slice e)) (hinfo : (Try.prog.info? e).map (fun i => (i.zero, i.size, i.bytes)) = some (some (.agg #[.int .i64 0, .int .i64 0]), 2, 16))
    (hn : out.length ≤ 1048576) (v : Value) (ad : Addr)
    (hgd : o.guard = none) (ho : o.op = .call { callee := .builtin .append, args := #[s, x], argTypes := #[t, t] })
    (hs : a.eval s = v) (hx : a.eval x = .slice (some ad) 1 1)
    (hown : Own w base e v out) (h0 : w.cell? ad = some (.int .i64 p)) (h1 : w.cell? (ad.add 1) = some (.int .i64 q)) (hbase : base ≤ w.heap.size)
    (h : ∀ v' w', Own w' base e v' (out ++ [(p, q)]) → w.grownBy w' v.ownBlock → wpList Try.prog ops Q rest (a.put o.dst v') w') :
    wpList Try.prog ops Q (o :: rest) a w := by
  obtain ⟨i, hi, hzz⟩ := Option.map_eq_some_iff.1 hinfo
  simp only [Prod.mk.injEq] at hzz
  obtain ⟨hz, hsz, hb⟩ := hzz
  refine wpList_append_own w hgd s x t ho base e i _ 2 16 ht hi hz hsz hb rfl (by decide) v out.length (pc out) hs hown.1 ad 1 1 [.int .i64 p, .int .i64 q] hx rfl ?_ ?_ ?_ ?_ hbase ?_
  · intro j u hj
    match j, hj with
    | 0, hj => simp at hj; subst hj; simpa [Addr.add] using h0
    | 1, hj => simp at hj; subst hj; exact h1
  · intro u hu
    simp at hu
    rcases hu with rfl | rfl <;> rfl
  · unfold maxLen; omega
  · omega
  · intro v' w' h1 h2 h3
    refine h v' w' ⟨?_, fun h => ?_⟩ h2
    · rw [List.length_append, pc_append]; exact h1
    · simp at h

theorem Own.below {w w1 : World} {base B : Nat} {e : TypeId} {v : Value} {out : List (Int × Int)} (h : Own w base e v out) (hg : w.grownBy w1 v.ownBlock) {w0 : World} (hb : Below B w0 w) (hB : B ≤ base) (hB2 : B ≤ w.heap.size) : Below B w0 w1 := by
  refine hb.grown hg hB2 (fun k hk => ?_)
  have := (h.1.lt k hk).1
  omega

theorem Own.cellKept {w w1 : World} {base : Nat} {e : TypeId} {v : Value} {out : List (Int × Int)} (h : Own w base e v out) (hg : w.grownBy w1 v.ownBlock) {a : Addr} {u : Value} (hc : w.cell? a = some u) (hlt : a.block < base) : w1.cell? a = some u := by
  refine hg.cell hc (fun hk => ?_)
  have := (h.1.lt a.block hk.symm).1
  omega

theorem Own.prs {w : World} {base : Nat} {e : TypeId} {v : Value} {out : List (Int × Int)} (h : Own w base e v out) : ∃ A cap, v = .slice A out.length cap ∧ Prs w A out ∧ (A = none ↔ out = []) ∧ (∀ a, A = some a → base ≤ a.block ∧ a.block < w.heap.size) := by
  obtain ⟨⟨hl, h1⟩, h2⟩ := h
  rcases h1 with ⟨rfl, hn⟩ | ⟨g, cap, cur, rfl, hb, hh, hnc, hcm, hcs, htake⟩
  · have : out = [] := List.eq_nil_of_length_eq_zero hn
    subst this
    exact ⟨none, 0, rfl, Prs.nil _ _, by simp, fun a ha => by cases ha⟩
  · refine ⟨some ⟨g, 0, none⟩, cap, rfl, ?_, ⟨fun hc => (by cases hc), fun hc => by have := h2 hc; cases this⟩, fun a ha => ?_⟩
    · intro i hi
      have hp := pc_get0 out i hi
      rw [← htake] at hp
      refine ⟨g, 0, rfl, ?_, ?_⟩
      · rw [Nat.zero_add]
        simp only [World.cell?, hh]
        have := hp.1
        rw [List.getElem?_take, if_pos (by omega)] at this
        simpa using this
      · rw [Nat.zero_add]
        simp only [World.cell?, hh]
        have := hp.2
        rw [List.getElem?_take, if_pos (by omega)] at this
        simpa using this
    · cases ha
      exact ⟨hb, (Array.getElem?_eq_some_iff.1 hh).1⟩
end Go.Proofs.Qxb6604105a
