import Derived.Test.Qxb6605238aZZ2
namespace Go.Proofs.Qxb6605238a
open Go.RowKit Go.Deep
set_option linter.unusedVariables false
set_option linter.unusedSimpArgs false

theorem cloneArcs_any (A : Option Addr) (cap : Nat) (xs : List (Int × Int)) (w : World) (hR : Prs w A xs) (hn2 : xs.length ≤ 65536) (hnil : A = none → xs = [] ∧ cap = 0) :
    Calls Try.prog 14 #[.slice A xs.length cap] w fun e w' => ∃ A' c', e = .returned (.slice A' xs.length c') ∧ Prs w' A' xs ∧ Below w.heap.size w w' := by
  cases A with
  | none =>
    obtain ⟨rfl, rfl⟩ := hnil rfl
    refine (cloneArcs_nil w).mono ?_
    rintro e w' ⟨rfl, rfl⟩
    exact ⟨none, 0, rfl, fun i hi => absurd hi (Nat.not_lt_zero _), Below.refl _ _⟩
  | some a =>
    refine (cloneArcs a cap xs w hR hn2).mono ?_
    rintro e w' ⟨rfl, hC⟩
    exact ⟨_, _, rfl, prs_of_row hC.row, hC.below⟩

theorem Cells.congr {w : World} {A : Option Addr} {n : Nat} {V V' : Nat → Value} (h : Cells w A n V) (e : ∀ i, i < n → V i = V' i) : Cells w A n V' := by
  intro i hi
  obtain ⟨b, off, hA, h0⟩ := h i hi
  exact ⟨b, off, hA, by rw [h0, e i hi]⟩

/-- What the guards have told of 'start'. -/
theorem start_nat {z : Nat → Int} {n m : Nat} (h0 : 0 ≤ z 0) (hm : z n ≤ (m : Int)) (hmono : ∀ i, i < n → z i ≤ z (i + 1)) :
    (∀ i, i ≤ n → 0 ≤ z i) ∧ (∀ i, i ≤ n → z i ≤ z n) := by
  constructor
  · intro i
    induction i with
    | zero => intro _; exact h0
    | succ i ih => intro hi; have := ih (by omega); have := hmono i (by omega); omega
  · intro i hi
    obtain ⟨d, rfl⟩ : ∃ d, n = i + d := ⟨n - i, by omega⟩
    clear hi hm
    induction d with
    | zero => exact Int.le_refl _
    | succ d ih =>
      have := ih (fun j hj => hmono j (by omega))
      have := hmono (i + d) (by omega)
      rw [show i + (d + 1) = i + d + 1 by omega]
      omega

set_option maxRecDepth 100000 in
set_option maxHeartbeats 3200000 in
theorem law4 (A1 A2 : Option Addr) (c1 c2 : Nat) (L : Nat) (z : Nat → Int) (xs : List (Int × Int)) (w : World) (h1 : Cells w A1 L (fun i => .int .i64 (z i))) (h2 : Prs w A2 xs) (hnil : A2 = none → xs = [] ∧ c2 = 0) :
    Calls Try.prog 4 #[.slice A1 L c1, .slice A2 xs.length c2] w fun e w' => e = .returned (.bool true) ∧ Below w.heap.size w w' := by
  have HN := hide hnil
  clear hnil
  by_cases g1 : (65536 : Int) < L
  · go_enter Try.func4, Try.ntmps4
    go_wp2_with fail
    go_ret
    exact ⟨rfl, Below.refl _ _⟩
  have g1d : decide ((65536 : Int) < L) = false := by simpa using g1
  by_cases g2 : (65536 : Int) < xs.length
  · go_enter Try.func4, Try.ntmps4
    go_wp2_with fail
    go_ret
    exact ⟨rfl, Below.refl _ _⟩
  by_cases g3 : 1048576 < 8 * (L : Int) + 16 * xs.length
  · go_enter Try.func4, Try.ntmps4
    go_wp2_with fail
    go_ret
    exact ⟨rfl, Below.refl _ _⟩
  by_cases g4 : L = 0
  · have g4d : ((L : Int) == 0) = true := by simp [g4]
    clear g4
    go_enter Try.func4, Try.ntmps4
    go_wp2_with fail
    go_ret
    exact ⟨rfl, Below.refl _ _⟩
  have g4d : ((L : Int) == 0) = false := by simp; omega
  obtain ⟨n, rfl⟩ : ∃ n, L = n + 1 := ⟨L - 1, by omega⟩
  obtain ⟨b1, o1, rfl, hc0⟩ := h1 0 (by omega)
  rw [Nat.add_zero] at hc0
  have k1 : n ≤ 65535 := by omega
  have k2 : xs.length ≤ 65536 := by omega
  have k3 : 8 * (n + 1) + 16 * xs.length ≤ 1048576 := by omega
  have k1d : decide ((65536 : Int) < (n : Int) + 1) = false := by simp; omega
  have k4d : (((n : Int) + 1) == 0) = false := by simp; omega
  clear g4 g1d g4d g1 g2 g3
  by_cases gn : 1 ≤ n
  · by_cases g5 : z 0 < 0
    · go_enter Try.func4, Try.ntmps4
      go_wp2_with fail
      go_ret
      exact ⟨rfl, Below.refl _ _⟩
    have g5d : decide (z 0 < 0) = false := by simpa using g5
    obtain ⟨bq, oq, e1, hcn⟩ := h1 n (by omega)
    cases e1
    by_cases g6 : (xs.length : Int) < z n
    · go_enter Try.func4, Try.ntmps4
      go_wp2_with fail
      go_ret
      exact ⟨rfl, Below.refl _ _⟩
    go_enter Try.func4, Try.ntmps4
    go_wp2_with fail
    go_loopg [6] n (fun gk i wr => (∃ m, wr = w.drewN m) ∧ ∃ k : Nat, k ≤ n ∧ gk = n - k ∧ i = .int .i64 k ∧ ∀ i, i < k → z i ≤ z (i + 1))
    case atStart => exact ⟨⟨0, rfl⟩, 0, Nat.zero_le _, rfl, rfl, fun i hi => absurd hi (Nat.not_lt_zero _)⟩
    case round =>
      obtain ⟨⟨m, rfl⟩, k, hk, rfl, rfl, hall⟩ := hrel
      have HALL := hide hall
      clear hall
      by_cases hlt : k < n
      · obtain ⟨bq, oq, e1, hk0⟩ := h1 k (by omega)
        cases e1
        obtain ⟨bq, oq, e1, hk1⟩ := h1 (k + 1) (by omega)
        cases e1
        by_cases hc : z k ≤ z (k + 1)
        · go_wp2_with fail
          go_quiet (fail)
          go_wp2_with fail
          go_roundg (n - (k + 1))
          case measure => omega
          case rel =>
            refine ⟨by first | exact ⟨_, rfl⟩ | exact dr2 _ _ _, k + 1, by omega, rfl, by go_num, fun i hi => ?_⟩
            by_cases e : i = k
            · subst e; exact hc
            · exact HALL.out i (by omega)
        · go_wp2_with fail
          go_quiet (fail)
          go_wp2_with fail
          go_ret
          exact ⟨rfl, below_drewN (below_drewN (Below.refl _ _) _) _⟩
      · obtain ⟨hz0, hzn⟩ := start_nat (z := z) (n := n) (m := xs.length) (by omega) (by omega) (fun i hi => HALL.out i (by omega))
        have HZ0 := hide hz0
        have HZN := hide hzn
        have HMO : Hid (∀ i, i < n → z i ≤ z (i + 1)) := fun i hi => HALL.out i (by omega)
        clear hz0 hzn HALL
        go_wp2_with fail
        have hB0 : Below w.heap.size w (w.drewN m) := below_drewN (Below.refl _ _) m
        have h1' := h1.drewN m
        have h2' := h2.drewN m
        have hcn' : (w.drewN m).cell? ⟨b1, o1 + n, none⟩ = some (.int .i64 (z n)) := hcn
        clear h1 h2 hc0 hcn k1d k4d g5d hk hlt
        generalize w.drewN m = w0 at *
        have e0 : z 0 = ((z 0).toNat : Int) := by omega
        have en : z n = ((z n).toNat : Int) := by have := HZ0.out n (Nat.le_refl _); omega
        have h0n : (z 0).toNat ≤ (z n).toNat := by have := HZN.out 0 (by omega); omega
        have E0 := hide e0
        have EN := hide en
        clear e0 en
        go_loopg [7] ((z n).toNat - (z 0).toNat) (fun gk i wr => w0 = wr ∧ ∃ j : Nat, (z 0).toNat ≤ j ∧ j ≤ (z n).toNat ∧ gk = (z n).toNat - j ∧ i = .int .i64 j ∧ ∀ x, (z 0).toNat ≤ x → x < j → 0 ≤ fa xs x ∧ fa xs x < n)
        case atStart => exact ⟨rfl, (z 0).toNat, Nat.le_refl _, h0n, rfl, by rw [← E0.out], fun x h1 h2 => absurd h2 (by omega)⟩
        case round =>
          obtain ⟨rfl, j, hj1, hj2, rfl, rfl, hall⟩ := hrel
          have HALL := hide hall
          clear hall
          by_cases hlt : (j : Int) < z n
          · obtain ⟨g2, o2, rfl, p0, p1⟩ := h2' j (by have := EN.out; omega)
            have hjx : j < xs.length := by have := EN.out; omega
            clear p1
            by_cases q0 : fa xs j < 0
            · go_wp2_with fail
              go_ret
              exact ⟨rfl, hB0⟩
            have q0d : decide (fa xs j < 0) = false := by simpa using q0
            by_cases q1 : (n : Int) ≤ fa xs j
            · go_wp2_with fail
              go_ret
              exact ⟨rfl, hB0⟩
            go_wp2_with fail
            go_roundg ((z n).toNat - (j + 1))
            case measure => have := EN.out; omega
            case rel =>
              refine ⟨rfl, j + 1, by omega, by have := EN.out; omega, rfl, by go_num, fun x h1 h2 => ?_⟩
              by_cases e : x = j
              · subst e; exact ⟨by omega, by omega⟩
              · exact HALL.out x h1 (by omega)
          · have hSz : Hid (∀ i, i < n + 1 → z i = ((z i).toNat : Int)) := fun i hi => by have := HZ0.out i (by omega); omega
            have hSm : Hid (∀ i, i < n → (z i).toNat ≤ (z (i + 1)).toNat) := fun i hi => by have := HMO.out i hi; omega
            have hSb : Hid (∀ i, i ≤ n → (z i).toNat ≤ xs.length) := fun i hi => by have := HZN.out i hi; omega
            have hST : Hid (∀ u i, u < n → (z u).toNat ≤ i → i < (z (u + 1)).toNat → fa xs i = ((fa xs i).toNat : Int) ∧ (fa xs i).toNat < n) := by
              intro u i hu hi1 hi2
              have a1 := HZN.out (u + 1) (by omega)
              have a2 := HZ0.out u (by omega)
              have a3 : z 0 ≤ z u := by
                have hm := HMO.out
                clear hi1 hi2 a1 a2
                induction u with
                | zero => exact Int.le_refl _
                | succ u ih => have := ih (by omega); have := hm u (by omega); omega
              have := HALL.out i (by omega) (by have := EN.out; omega)
              omega
            clear HALL HZ0 HZN HMO E0
            go_wp2_with fail
            refine (cloneInts13 _ c1 (n + 1) z _ h1' (by omega)).mono ?_
            rintro e w1 ⟨rfl, hC⟩
            have hb1 := hC.below
            have hS1 := (cells_of_row hC.row).congr (fun i hi => by rw [hSz.out i hi])
            clear hC
            go_wp2_with fail
            refine (cloneArcs_any A2 c2 xs _ (h2'.below hb1) (by omega) HN.out).mono ?_
            rintro e w2 ⟨A', c', rfl, hP2, hb2⟩
            have hS2 := hS1.below hb2
            go_wp2_with fail
            refine (zz15_any _ _ _ _ (n + 1) A' xs _ hP2 (by omega) (fun a => Ans n (Ed n (fun i => (z i).toNat) (fun i => (fa xs i).toNat)) a)
              (fun w3 N hb3 hP3 => dfs_any _ _ _ _ _ xs.length xs.length n (fun i => (z i).toNat) (fun i => (fa xs i).toNat) xs _ (by omega) (by omega) (by omega) (Nat.le_refl _) (by omega) (hS2.below hb3) hSm.out hSb.out hP3 (Nat.le_refl _) hST.out)).mono ?_
            rintro e w3 ⟨a, rfl, ha, hb3⟩
            have HAA := hide ha
            clear ha
            go_wp2_with fail
            refine (bfs_any _ _ _ xs.length _ n A' (fun i => (z i).toNat) (fun i => (fa xs i).toNat) xs _ (by omega) (by omega) (by omega) (hS2.below hb3) hSm.out hSb.out (hP2.below hb3) (Nat.le_refl _) hST.out).mono ?_
            rintro e w4 ⟨a', rfl, ha, hb4⟩
            obtain rfl : a = a' := HAA.out.same ha
            clear ha HAA
            go_wp2_with fail
            go_ret
            refine ⟨by simp, ?_⟩
            have z1 := hB0.trans (hb1.mono hB0.size)
            have z2 := z1.trans (hb2.mono z1.size)
            have z3 := z2.trans (hb3.mono z2.size)
            exact z3.trans (hb4.mono z3.size)
  · have : n = 0 := by omega
    subst this
    go_enter Try.func4, Try.ntmps4
    go_wp2_with fail
    refine (cloneInts13 _ c1 1 (fun i => z i) w h1 (by omega)).mono ?_
    rintro e w1 ⟨rfl, hC⟩
    have hb1 := hC.below
    go_wp2_with fail
    refine (cloneArcs_any A2 c2 xs _ (h2.below hb1) (by omega) HN.out).mono ?_
    rintro e w2 ⟨A', c', rfl, hP2, hb2⟩
    go_wp2_with fail
    refine (zz15_any _ _ _ _ 1 A' xs _ hP2 (by omega) (fun a => a = -1) (fun w3 N hb3 hP3 => (dfs_zero _ _ _ _ _ _ _).mono (by rintro e w' ⟨rfl, rfl⟩; exact ⟨_, rfl, rfl, Below.refl _ _⟩))).mono ?_
    rintro e w3 ⟨a, rfl, rfl, hb3⟩
    go_wp2_with fail
    refine (bfs_zero _ _ _ _ _ _ _).mono ?_
    rintro e w' ⟨rfl, hw⟩
    rw [hw]
    clear hw w'
    go_wp2_with fail
    go_ret
    exact ⟨rfl, (hb1.trans (hb2.mono hb1.size)).trans (hb3.mono (Nat.le_trans hb1.size hb2.size))⟩
end Go.Proofs.Qxb6605238a
