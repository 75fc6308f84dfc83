import Derived.Test.Qxb6604105aRows
import Derived.Test.Qxb6604105aPlain
import Derived.Deep.QuietTactic
import Derived.BigQuiet
namespace Go.Proofs.Qxb6604105a
open Go.RowKit Go.Deep
set_option linter.unusedVariables false
set_option linter.unusedSimpArgs false

set_option maxHeartbeats 400000 in
theorem min_any (a b : Int) (w : World) : Calls Try.prog 20 #[.int .i64 a, .int .i64 b] w fun e w' => e = .returned (.int .i64 (if a < b then a else b)) ∧ w' = w := by
  by_cases h : a < b
  · rw [if_pos h]
    go_enter Try.func20, Try.ntmps20
    go_wp2
    go_ret
    exact ⟨rfl, rfl⟩
  · rw [if_neg h]
    go_enter Try.func20, Try.ntmps20
    go_wp2
    go_ret
    exact ⟨rfl, rfl⟩

set_option maxHeartbeats 400000 in
theorem max_any (a b : Int) (w : World) : Calls Try.prog 21 #[.int .i64 a, .int .i64 b] w fun e w' => e = .returned (.int .i64 (if b < a then a else b)) ∧ w' = w := by
  by_cases h : b < a
  · rw [if_pos h]
    go_enter Try.func21, Try.ntmps21
    go_wp2
    go_ret
    exact ⟨rfl, rfl⟩
  · rw [if_neg h]
    go_enter Try.func21, Try.ntmps21
    go_wp2
    go_ret
    exact ⟨rfl, rfl⟩

set_option maxHeartbeats 400000 in
theorem bytes13_any (A : Option Addr) (n cap : Nat) (R : Nat → List (Int × Int)) (IA : Nat → Option Addr) (C : Nat → Nat) (a b c : Int) (w : World) (hR : Rng w A n R IA C) :
    Calls Try.prog 13 #[.slice A n cap, .int .i64 a, .int .i64 b, .int .i64 c] w fun e w' => (∃ t : Bool, e = .returned (.bool t)) ∧ w' = w := by
  by_cases hn : n ≤ 1048576
  · go_enter Try.func13, Try.ntmps13
    go_wp2
    go_loopg [9, 10] n (fun g z i wr => w = wr ∧ ∃ k s : Nat, k ≤ n ∧ g = n - k ∧ s ≤ 1048576 ∧ z = .int .i64 s ∧ i = .int .i64 k)
    case atStart => exact ⟨rfl, 0, n, Nat.zero_le _, rfl, hn, rfl, rfl⟩
    case round =>
      obtain ⟨rfl, k, s, hk, rfl, hs, rfl, rfl⟩ := hrel
      by_cases hlt : k < n
      · obtain ⟨b', off, rfl, h0⟩ := hR.cell k hlt
        by_cases h1 : (R k).length ≤ 1048576
        · by_cases h2 : s + (R k).length ≤ 1048576
          · go_wp2
            go_roundg (n - (k + 1))
            case measure => omega
            case rel => exact ⟨rfl, k + 1, s + (R k).length, by omega, rfl, h2, by go_num, by go_num⟩
          · go_wp2
            go_ret
            exact ⟨⟨_, rfl⟩, rfl⟩
        · go_wp2
          go_ret
          exact ⟨⟨_, rfl⟩, rfl⟩
      · go_wp2
        go_ret
        exact ⟨⟨_, rfl⟩, rfl⟩
  · go_enter Try.func13, Try.ntmps13
    go_wp2
    go_ret
    exact ⟨⟨_, rfl⟩, rfl⟩
set_option maxHeartbeats 400000 in
theorem bytes5_any (A : Option Addr) (n cap : Nat) (R : Nat → List (Int × Int)) (IA : Nat → Option Addr) (C : Nat → Nat) (a b c : Int) (w : World) (hR : Rng w A n R IA C) :
    Calls Try.prog 5 #[.slice A n cap, .int .i64 a, .int .i64 b, .int .i64 c] w fun e w' => (∃ t : Bool, e = .returned (.bool t)) ∧ w' = w := by
  by_cases hn : n ≤ 1048576
  · go_enter Try.func5, Try.ntmps5
    go_wp2
    go_loopg [9, 10] n (fun g z i wr => w = wr ∧ ∃ k s : Nat, k ≤ n ∧ g = n - k ∧ s ≤ 1048576 ∧ z = .int .i64 s ∧ i = .int .i64 k)
    case atStart => exact ⟨rfl, 0, n, Nat.zero_le _, rfl, hn, rfl, rfl⟩
    case round =>
      obtain ⟨rfl, k, s, hk, rfl, hs, rfl, rfl⟩ := hrel
      by_cases hlt : k < n
      · obtain ⟨b', off, rfl, h0⟩ := hR.cell k hlt
        by_cases h1 : (R k).length ≤ 1048576
        · by_cases h2 : s + (R k).length ≤ 1048576
          · go_wp2
            go_roundg (n - (k + 1))
            case measure => omega
            case rel => exact ⟨rfl, k + 1, s + (R k).length, by omega, rfl, h2, by go_num, by go_num⟩
          · go_wp2
            go_ret
            exact ⟨⟨_, rfl⟩, rfl⟩
        · go_wp2
          go_ret
          exact ⟨⟨_, rfl⟩, rfl⟩
      · go_wp2
        go_ret
        exact ⟨⟨_, rfl⟩, rfl⟩
  · go_enter Try.func5, Try.ntmps5
    go_wp2
    go_ret
    exact ⟨⟨_, rfl⟩, rfl⟩

set_option maxHeartbeats 400000 in
theorem tooBig_any (A : Option Addr) (n cap : Nat) (R : Nat → List (Int × Int)) (IA : Nat → Option Addr) (C : Nat → Nat) (w : World) (hR : Rng w A n R IA C) :
    Calls Try.prog 6 #[.slice A n cap] w fun e w' => ∃ t : Bool, e = .returned (.bool t) ∧ w' = w ∧ (t = false → n ≤ 65536 ∧ ∀ i, i < n → (R i).length ≤ 65536) := by
  by_cases hn : n ≤ 65536
  · go_enter Try.func6, Try.ntmps6
    go_wp2
    go_loopg [3, 4] n (fun g z i wr => w = wr ∧ ∃ k s : Nat, k ≤ n ∧ g = n - k ∧ s ≤ 2000000 ∧ z = .int .i64 s ∧ i = .int .i64 k ∧ ∀ i, i < k → (R i).length ≤ 65536)
    case atStart => exact ⟨rfl, 0, 24 * n, Nat.zero_le _, rfl, by omega, by go_num, rfl, fun i hi => absurd hi (Nat.not_lt_zero _)⟩
    case round =>
      obtain ⟨rfl, k, s, hk, rfl, hs, rfl, rfl, hall⟩ := hrel
      have HA : Hid (∀ i, i < k → (R i).length ≤ 65536) := hall
      clear hall
      by_cases hlt : k < n
      · obtain ⟨b', off, rfl, h0⟩ := hR.cell k hlt
        by_cases h1 : (R k).length ≤ 65536
        · by_cases h2 : s + 16 * (R k).length ≤ 1048576
          · go_wp2
            go_roundg (n - (k + 1))
            case measure => omega
            case rel =>
              refine ⟨rfl, k + 1, s + 16 * (R k).length, by omega, rfl, by omega, by go_num, by go_num, fun i hi => ?_⟩
              by_cases e : i = k
              · subst e; exact h1
              · exact HA.out i (by omega)
          · go_wp2
            go_ret
            exact ⟨_, rfl, rfl, fun h => by cases h⟩
        · go_wp2
          go_ret
          exact ⟨_, rfl, rfl, fun h => by cases h⟩
      · go_wp2
        go_ret
        exact ⟨_, rfl, rfl, fun _ => ⟨hn, fun i hi => HA.out i (by omega)⟩⟩
  · go_enter Try.func6, Try.ntmps6
    go_wp2
    go_ret
    exact ⟨_, rfl, rfl, fun h => by cases h⟩

set_option maxHeartbeats 400000 in
theorem valid_any (A : Option Addr) (cap : Nat) (xs : List (Int × Int)) (w : World) (hA : Prs w A xs) (hn : xs.length ≤ 1048576) :
    Calls Try.prog 7 #[.slice A xs.length cap] w fun e w' => ∃ t : Bool, e = .returned (.bool t) ∧ (t = true ↔ Val xs) ∧ ∃ m, w' = w.drewN m := by
  go_enter Try.func7, Try.ntmps7
  go_wp2
  go_loopg [3] xs.length (fun g i wr => (∃ m, wr = w.drewN m) ∧ ∃ k : Nat, k ≤ xs.length ∧ g = xs.length - k ∧ i = .int .i64 k ∧ ∀ i, i < k → fa xs i ≤ sa xs i)
  case atStart => exact ⟨⟨0, rfl⟩, 0, Nat.zero_le _, rfl, rfl, fun i hi => absurd hi (Nat.not_lt_zero _)⟩
  case round =>
    obtain ⟨⟨m, rfl⟩, k, hk, rfl, rfl, hall⟩ := hrel
    have HA : Hid (∀ i, i < k → fa xs i ≤ sa xs i) := hall
    clear hall
    by_cases hlt : k < xs.length
    · obtain ⟨b, off, rfl, h0, h1⟩ := hA k hlt
      by_cases hc : fa xs k ≤ sa xs k
      · go_wp2
        go_quiet (fail)
        go_wp2
        go_roundg (xs.length - (k + 1))
        case measure => omega
        case rel =>
          refine ⟨⟨m + nq, by simp⟩, k + 1, by omega, rfl, by go_num, fun i hi => ?_⟩
          by_cases e : i = k
          · subst e; exact hc
          · exact HA.out i (by omega)
      · go_wp2
        go_quiet (fail)
        go_wp2
        go_ret
        exact ⟨_, rfl, ⟨fun h => (by cases h), fun h => by have := h k hlt; omega⟩, m + nq, by simp⟩
    · go_wp2
      go_ret
      exact ⟨_, rfl, ⟨fun _ i hi => HA.out i (by omega), fun _ => rfl⟩, m, rfl⟩
end Go.Proofs.Qxb6604105a
