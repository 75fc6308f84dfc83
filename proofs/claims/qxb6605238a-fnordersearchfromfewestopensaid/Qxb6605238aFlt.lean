import Derived.Test.Qxb6605238aSem
import Derived.Lib.LazyBuf
import Derived.Lib.SliceRun
namespace Go.Proofs.Qxb6605238a
open Go.RowKit Go.Deep
set_option linter.unusedVariables false
set_option linter.unusedSimpArgs false

/-- 'append(s, x)' in place. -/
theorem wpList_appIn {ops : Array Oper} {rest : List Oper} {o : Oper} {a : Act} {Q : Exit → Act → World → Prop} (w : World) (s x : Operand) (p : Value) (hp : p.oneCell' = true) (g j cap : Nat) (V : Nat → Value) (ad : Addr)
    (hgd : o.guard = none) (ho : o.op = .call { callee := .builtin .append, args := #[s, x], argTypes := #[24, 24] })
    (hs : a.eval s = .slice (some ⟨g, 0, none⟩) j cap) (hx : a.eval x = .slice (some ad) 1 1)
    (hrow : w.rowIs g 3 cap V) (h0 : w.cell? ad = some p) (hj : j < cap)
    (h : ∀ w', w'.rowIs g 3 cap (up V j p) → w.grownBy w' (some g) → wpList Try.prog ops Q rest (a.put o.dst (.slice (some ⟨g, 0, none⟩) (j + 1) cap)) w') :
    wpList Try.prog ops Q (o :: rest) a w := by
  obtain ⟨i, hi, hzz⟩ := Option.map_eq_some_iff.1 info3
  simp only [Prod.mk.injEq] at hzz
  obtain ⟨hz, hsz, hb⟩ := hzz
  obtain ⟨cur, hg, hcs, hcv⟩ := hrow
  have hr := fun ty => run_append_room (P := Try.prog) w 24 ty 3 i Try.underlying24 hi g j cap cur hg ad 1 1 [p] (by rw [hsz]; rfl) (by
    intro q u hq
    match q, hq with
    | 0, hq => simp at hq; subst hq; simpa [Addr.add] using h0) (by intro u hu; simp at hu; subst hu; exact hp) (by omega) (by rw [hsz]; simp; omega)
  refine wpList_plain hgd fun K hK => ?_
  unfold Oper.wp execOp
  simp only [ho, resolve, invoke, builtin, Sem.run_bind, Sem.run_pure, Result.andThen_ok, List.map_toArray, List.map_cons, List.map_nil, hs, hx, hr]
  refine hK _ _ (h _ ?_ ?_)
  · refine ⟨_, setRow_heap w g cur _ 3 _ hg, ?_, fun q hq => ?_⟩
    · simp only [List.size_toArray, List.length_append, List.length_take, List.length_drop, Array.length_toList, List.length_singleton, hsz]
      omega
    · unfold up
      simp only [hsz, Nat.mul_one, List.length_singleton]
      rw [List.getElem?_toArray, List.append_assoc]
      by_cases e : q = j
      · subst e
        rw [if_pos rfl, List.getElem?_append_right (by simp; omega)]
        simp
        rw [show q - min q cur.size = 0 by omega]
        simp
      · rw [if_neg e]
        by_cases hlt : q < j
        · rw [List.getElem?_append_left (by simp; omega), List.getElem?_take, if_pos hlt]
          have := hcv q hq
          simpa using this
        · rw [List.getElem?_append_right (by simp; omega), List.getElem?_append_right (by simp; omega), List.getElem?_drop]
          have := hcv q hq
          simp only [List.length_take, List.length_singleton, Array.length_toList]
          rw [show j + 1 + (q - min j cur.size - 1) = q by omega]
          simpa using this
  · exact ⟨rfl, rfl, rfl, by simp, fun k _ hk => setRow_other w g k _ (fun e => hk (by rw [e]))⟩

/-- The memory while 'near' is filtered in place: i of NL are looked at, K of them kept. -/
def Flt (wr : World) (B : Nat) (nv kv : Value) (NL : List Nat) (i : Nat) (K : List Nat) : Prop :=
  (nv = .slice none 0 0 ∧ kv = .slice none 0 0 ∧ NL = [] ∧ K = []) ∨
  ∃ g cap V, nv = .slice (some ⟨g, 0, none⟩) NL.length cap ∧ kv = .slice (some ⟨g, 0, none⟩) K.length cap ∧ B ≤ g ∧ NL.length ≤ cap ∧ cap ≤ maxLen ∧ K.length ≤ i ∧ wr.rowIs g 3 cap V ∧
    (∀ j (h : j < K.length), V j = .int .i64 (K[j] : Int)) ∧ (∀ j (h : j < NL.length), i ≤ j → V j = .int .i64 (NL[j] : Int))

/-- v[:0]. -/
def cut0 : Value → Value
  | .slice a _ c => .slice a 0 c
  | v => v

theorem row_of_own {wr : World} {g cap m : Nat} {cur : Array Value} {B : Nat} {zs : List Int} (hg : wr.heap[g]? = some (.cells cur 3 (0, 0))) (hs : cur.size = cap * 1) (ht : cur.toList.take (zs.length * 1) = zs.map (Value.int .i64)) (hle : zs.length ≤ cap) :
    ∃ V, wr.rowIs g 3 cap V ∧ ∀ j (h : j < zs.length), V j = .int .i64 zs[j] := by
  refine ⟨fun j => cur[j]?.getD default, ⟨cur, hg, by omega, fun i hi => ?_⟩, fun j hj => ?_⟩
  · show cur[i]? = some (cur[i]?.getD default)
    rw [Array.getElem?_eq_getElem (by omega)]; rfl
  · have h2 : (zs.map (Value.int .i64))[j]? = some (.int .i64 zs[j]) := by simp [hj]
    rw [← ht, List.getElem?_take, if_pos (by omega)] at h2
    have h3 : cur[j]? = some (.int .i64 zs[j]) := by simpa using h2
    simp [h3]

theorem Flt.start {wr : World} {B : Nat} {nv : Value} {NL : List Nat} (h : OwnI wr B nv (zl NL)) : Flt wr B nv (cut0 nv) NL 0 [] := by
  rcases h.2 with ⟨h1, h2⟩ | ⟨g, cap, cur, h1, hB, hg, hle, hcm, hcs, ht⟩
  · left
    rw [h1]
    refine ⟨rfl, rfl, ?_, rfl⟩
    have : (zl NL).length = 0 := h2
    unfold zl at this
    simpa using this
  · right
    have hl : (zl NL).length = NL.length := by simp [zl]
    obtain ⟨V, hV, hVz⟩ := row_of_own (m := 0) (B := B) hg hcs ht hle
    refine ⟨g, cap, V, by rw [h1, hl], by rw [h1]; rfl, hB, by omega, hcm, Nat.le_refl _, hV, fun j hj => by simp at hj, fun j hj _ => ?_⟩
    rw [hVz j (by omega)]
    simp [zl]

theorem Flt.fin {wr : World} {B : Nat} {nv kv : Value} {NL K : List Nat} {i : Nat} (h : Flt wr B nv kv NL i K) (hi : i ≤ NL.length) : OwnI wr B kv (zl K) ∧ kv.ownBlock = nv.ownBlock := by
  rcases h with ⟨h1, h2, h3, h4⟩ | ⟨g, cap, V, h1, h2, hB, hle, hcm, hk, hrow, hK, _⟩
  · subst h4
    rw [h1, h2]
    exact ⟨OwnI.nil _ _, rfl⟩
  · rw [h1, h2]
    refine ⟨⟨by simp, Or.inr ?_⟩, rfl⟩
    obtain ⟨cur, hg, hcs, hcv⟩ := hrow
    have hl : (zl K).length = K.length := by simp [zl]
    refine ⟨g, cap, cur, by rw [hl], hB, hg, by omega, hcm, by omega, ?_⟩
    apply List.ext_getElem?
    intro j
    rw [List.getElem?_take]
    by_cases hj : j < K.length
    · rw [if_pos (by omega)]
      have := hcv j (by omega)
      rw [hK j hj] at this
      simp only [Array.getElem?_toList, this, zl, List.map_map, List.getElem?_map, List.getElem?_eq_getElem hj]
      rfl
    · rw [if_neg (by omega), List.getElem?_eq_none]
      simp [zl]; omega

theorem Flt.skip {wr : World} {B : Nat} {nv kv : Value} {NL K : List Nat} {i : Nat} (h : Flt wr B nv kv NL i K) : Flt wr B nv kv NL (i + 1) K := by
  rcases h with h | ⟨g, cap, V, h1, h2, hB, hle, hcm, hk, hrow, hK, hN⟩
  · exact Or.inl h
  · exact Or.inr ⟨g, cap, V, h1, h2, hB, hle, hcm, by omega, hrow, hK, fun j hj hij => hN j hj (by omega)⟩

theorem Flt.drewN {wr : World} {B : Nat} {nv kv : Value} {NL K : List Nat} {i : Nat} (h : Flt wr B nv kv NL i K) (m : Nat) : Flt (wr.drewN m) B nv kv NL i K := h

theorem Flt.at_ {wr : World} {B : Nat} {nv kv : Value} {NL K : List Nat} {i : Nat} (h : Flt wr B nv kv NL i K) (hi : i < NL.length) :
    ∃ g cap V, nv = .slice (some ⟨g, 0, none⟩) NL.length cap ∧ kv = .slice (some ⟨g, 0, none⟩) K.length cap ∧ K.length < cap ∧ wr.rowIs g 3 cap V ∧ wr.cell? ⟨g, i, none⟩ = some (.int .i64 (NL[i] : Int)) ∧
      ∀ w', w'.rowIs g 3 cap (up V K.length (.int .i64 (NL[i] : Int))) → Flt w' B nv (.slice (some ⟨g, 0, none⟩) (K.length + 1) cap) NL (i + 1) (K ++ [NL[i]]) := by
  rcases h with ⟨_, _, h3, _⟩ | ⟨g, cap, V, h1, h2, hB, hle, hcm, hk, hrow, hK, hN⟩
  · subst h3; simp at hi
  · refine ⟨g, cap, V, h1, h2, by omega, hrow, by rw [hrow.cell (i := i) (by omega), hN i hi (Nat.le_refl _)], fun w' hw' => ?_⟩
    refine Or.inr ⟨g, cap, _, h1, by simp, hB, hle, hcm, by simp; omega, hw', fun j hj => ?_, fun j hj hij => ?_⟩
    · unfold up
      by_cases e : j = K.length
      · subst e; rw [if_pos rfl]; simp
      · rw [if_neg e]
        simp only [List.length_append, List.length_singleton] at hj
        rw [hK j (by omega), List.getElem_append_left (by omega)]
    · unfold up
      rw [if_neg (by omega)]
      exact hN j hj (by omega)
end Go.Proofs.Qxb6605238a
