import Derived.Test.Qxb6605238aClosed
namespace Go.Proofs.Qxb6605238a
open Go.RowKit Go.Deep
set_option linter.unusedVariables false
set_option linter.unusedSimpArgs false

variable {n : Nat} {adj : Nat → List Nat} {L : List Nat}

theorem ps_nil (v : Nat) : ps n [] v = n := by simp [ps]
theorem ps_snoc {v : Nat} (h : v ∉ L) (j : Nat) : ps n (L ++ [v]) j = up (ps n L) v L.length j := by
  unfold up ps
  by_cases e : j = v
  · subst e
    rw [if_pos rfl, if_pos (by simp), List.idxOf_append, if_neg h]
    simp
  · rw [if_neg e]
    by_cases hj : j ∈ L
    · rw [if_pos hj, if_pos (by simp [hj]), List.idxOf_append, if_pos hj]
    · rw [if_neg hj, if_neg (by simp [hj, e])]
theorem ps_next (hnd : L.Nodup) {i : Nat} (hi : i < L.length) (j : Nat) : up (ps n (L.take i)) (L[i]) i j = ps n (L.take (i + 1)) j := by
  have h1 : L.take (i + 1) = L.take i ++ [L[i]] := List.take_succ_eq_append_getElem hi
  have h2 : L[i] ∉ L.take i := by
    have : (L.take (i + 1)).Nodup := List.Nodup.sublist (List.take_sublist _ _) hnd
    rw [h1, List.nodup_append] at this
    intro hm
    exact this.2.2 _ hm _ (by simp) rfl
  rw [h1, ps_snoc h2]
  rw [List.length_take, Nat.min_eq_left (by omega)]

theorem not_take_nd (hnd : L.Nodup) {i : Nat} (hi : i < L.length) : L[i] ∉ L.take i := by
  have h1 : L.take (i + 1) = L.take i ++ [L[i]] := List.take_succ_eq_append_getElem hi
  have : (L.take (i + 1)).Nodup := List.Nodup.sublist (List.take_sublist _ _) hnd
  rw [h1, List.nodup_append] at this
  intro hm
  exact this.2.2 _ hm _ (by simp) rfl

theorem inL_bef (hl : L.length ≤ n) (x v : Nat) : inL (bef L v) x = decide (ps n L x < ps n L v) := by
  unfold inL
  rw [Bool.eq_iff_iff, decide_eq_true_eq, decide_eq_true_eq]
  exact (ps_lt hl x v).symm

theorem cB_cls (hl : L.length ≤ n) (v : Nat) : cB adj (ps n L) v (adj v).length = cls adj L v := by
  unfold cB cls
  rw [List.take_length]
  congr 1
  funext w
  unfold okw
  rw [inL_bef hl]
  congr 1
  congr 1
  funext x
  unfold okx
  rw [inL_bef hl]

/-- The open neighbours among the first j. -/
def cR (adj : Nat → List Nat) (L : List Nat) (v j : Nat) : Nat := ((adj v).take j).countP fun x => !inL L x
theorem cR_next {v j x : Nat} (hj : j < (adj v).length) (hx : (adj v)[j] = x) : cR adj L v (j + 1) = cR adj L v j + if (!inL L x) = true then 1 else 0 := by
  unfold cR
  rw [take_next hj, hx, List.countP_append, List.countP_cons, List.countP_nil]; simp
theorem cR_le {v j : Nat} : cR adj L v j ≤ j := Nat.le_trans List.countP_le_length (List.length_take_le _ _)
theorem cR_all {v : Nat} : cR adj L v (adj v).length = rst adj L v := by unfold cR rst; rw [List.take_length]
theorem cR_zero {v : Nat} : cR adj L v 0 = 0 := by simp [cR]

/-- Has one of the first j been taken earlier? -/
def hE (adj : Nat → List Nat) (L : List Nat) (v j : Nat) : Bool := ((adj v).take j).any fun x => inL (bef L v) x
theorem hE_next {v j x : Nat} (hj : j < (adj v).length) (hx : (adj v)[j] = x) : hE adj L v (j + 1) = (hE adj L v j || inL (bef L v) x) := by
  unfold hE
  rw [take_next hj, hx, List.any_append]; simp
theorem hE_all {v : Nat} : hE adj L v (adj v).length = isn adj L v := by unfold hE isn; rw [List.take_length]
theorem hE_zero {v : Nat} : hE adj L v 0 = false := by simp [hE]

/-- 'hasEarlier', k of it done. -/
def he (adj : Nat → List Nat) (L : List Nat) (k : Nat) : Nat → Bool := fun j => if j < k then isn adj L j else false
theorem he_in (k j : Nat) : up (he adj L k) k (hE adj L k 0) j = he adj L k j := by
  unfold up he
  by_cases e : j = k
  · subst e; rw [if_pos rfl, hE_zero, if_neg (by omega)]
  · rw [if_neg e]
theorem he_out (k j : Nat) : up (he adj L k) k (hE adj L k (adj k).length) j = he adj L (k + 1) j := by
  unfold up he
  by_cases e : j = k
  · subst e; rw [if_pos rfl, hE_all, if_pos (by omega)]
  · rw [if_neg e]
    by_cases h : j < k
    · rw [if_pos h, if_pos (by omega)]
    · rw [if_neg h, if_neg (by omega)]
theorem up_up {α : Type} (f : Nat → α) (v : Nat) (a b : α) : up (up f v a) v b = up f v b := by
  funext j
  unfold up
  by_cases e : j = v
  · rw [if_pos e, if_pos e]
  · rw [if_neg e, if_neg e, if_neg e]

theorem inL_take_next {K : List Nat} {i x : Nat} (hi : i < K.length) (hx : K[i] = x) (j : Nat) : up (inL (K.take i)) x true j = inL (K.take (i + 1)) j := by
  rw [take_next hi, hx]
  unfold up inL
  by_cases e : j = x
  · subst e; rw [if_pos rfl]; simp
  · rw [if_neg e]; simp [e]

theorem iz_app_left {pre : List Int} {l : List Int} {i : Nat} (h : i < pre.length) : iz (pre ++ l) i = iz pre i := by
  simp [iz, List.getD, List.getElem?_append_left h]
theorem iz_app_right {pre : List Int} {l : List Nat} {i : Nat} (h : i < l.length) : iz (pre ++ zl l) (pre.length + i) = ((l.getD i 0 : Nat) : Int) := by
  simp [iz, List.getD, zl, h]
theorem iz_zl {l : List Nat} {i : Nat} (h : i < l.length) : iz (zl l) i = ((l[i] : Nat) : Int) := by
  simp [iz, List.getD, zl, h]
theorem last_get {l : List Nat} {x : Nat} (h : l.getLast? = some x) (h0 : 0 < l.length) : l[l.length - 1]'(by omega) = x := by
  rw [List.getLast?_eq_getElem?, List.getElem?_eq_getElem (by omega)] at h
  simpa using h
end Go.Proofs.Qxb6605238a
