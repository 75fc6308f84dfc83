import Derived.Test.Qxb6604105aReads
namespace Go.Proofs.Qxb6604105a
open Go.RowKit Go.Deep
set_option linter.unusedVariables false
set_option linter.unusedSimpArgs false

set_option maxHeartbeats 400000 in
theorem wf_any (A : Option Addr) (cap : Nat) (xs : List (Int × Int)) (w : World) (hA : Prs w A xs) (hn : xs.length ≤ 1048576) :
    Calls Try.prog 14 #[.slice A xs.length cap] w fun e w' => ∃ t : Bool, e = .returned (.bool t) ∧ (t = true ↔ WF xs) ∧ ∃ m, w' = w.drewN m := by
  go_enter Try.func14, Try.ntmps14
  go_wp2
  go_loopg [3] xs.length (fun g i wr => (∃ m, wr = w.drewN m) ∧ ∃ k : Nat, k ≤ xs.length ∧ g = xs.length - k ∧ i = .int .i64 k ∧ ∀ i, i < k → fa xs i < sa xs i ∧ (0 < i → sa xs (i - 1) ≤ fa xs i))
  case atStart => exact ⟨⟨0, rfl⟩, 0, Nat.zero_le _, rfl, rfl, fun i hi => absurd hi (Nat.not_lt_zero _)⟩
  case round =>
    obtain ⟨⟨m, rfl⟩, k, hk, rfl, rfl, hall⟩ := hrel
    have HA : Hid (∀ i, i < k → fa xs i < sa xs i ∧ (0 < i → sa xs (i - 1) ≤ fa xs i)) := hall
    clear hall
    by_cases hlt : k < xs.length
    · obtain ⟨b, off, rfl, h0, h1⟩ := hA k hlt
      by_cases hc : fa xs k < sa xs k
      · by_cases hk0 : 0 < k
        · obtain ⟨b2, off2, e2, _, h2⟩ := hA (k - 1) (by omega)
          cases e2
          by_cases hd : sa xs (k - 1) ≤ fa xs k
          · go_wp2
            go_quiet (fail)
            go_wp2
            go_quiet (fail)
            go_wp2
            go_roundg (xs.length - (k + 1))
            case measure => omega
            case rel =>
              refine ⟨⟨_, rfl⟩, k + 1, by omega, rfl, by go_num, fun i hi => ?_⟩
              by_cases e : i = k
              · subst e; exact ⟨hc, fun _ => hd⟩
              · exact HA.out i (by omega)
          · go_wp2
            go_quiet (fail)
            go_wp2
            go_quiet (fail)
            go_wp2
            go_ret
            exact ⟨_, rfl, ⟨fun h => (by cases h), fun h => by have := (h k hlt).2 hk0; omega⟩, dr3 _ _ _ _⟩
        · have hdec : decide ((0 : Int) < (k : Int)) = false := by simpa using hk0
          go_wp2
          go_quiet (fail)
          go_wp2
          go_quiet (fail)
          go_wp2
          go_roundg (xs.length - (k + 1))
          case measure => omega
          case rel =>
            refine ⟨⟨_, rfl⟩, k + 1, by omega, rfl, by go_num, fun i hi => ?_⟩
            have : i = k := by omega
            subst this
            exact ⟨hc, fun h => absurd h hk0⟩
      · go_wp2
        go_quiet (fail)
        go_wp2
        go_ret
        exact ⟨_, rfl, ⟨fun h => (by cases h), fun h => by have := (h k hlt).1; omega⟩, m + nq, by simp⟩
    · go_wp2
      go_ret
      exact ⟨_, rfl, ⟨fun _ i hi => HA.out i (by omega), fun _ => rfl⟩, m, rfl⟩

set_option maxHeartbeats 400000 in
theorem covered_any (A : Option Addr) (cap : Nat) (xs : List (Int × Int)) (x : Int) (w : World) (hA : Prs w A xs) (hw : WF xs) (hn : xs.length ≤ 1048576) :
    Calls Try.prog 16 #[.slice A xs.length cap, .int .i64 x] w fun e w' => ∃ t : Bool, e = .returned (.bool t) ∧ (t = true ↔ Cov xs x) ∧ w' = w := by
  have HW : Hid (WF xs) := hw
  clear hw
  go_enter Try.func16, Try.ntmps16
  go_wp2
  go_loopg [5, 6] xs.length (fun g lo hi wr => w = wr ∧ ∃ l h : Nat, l ≤ h ∧ h ≤ xs.length ∧ g = h - l ∧ lo = .int .i64 l ∧ hi = .int .i64 h ∧ (∀ i, i < l → fa xs i ≤ x) ∧ ∀ i, h ≤ i → i < xs.length → x < fa xs i)
  case atStart => exact ⟨rfl, 0, xs.length, Nat.zero_le _, Nat.le_refl _, rfl, rfl, rfl, fun i hi => absurd hi (Nat.not_lt_zero _), fun i h1 h2 => by omega⟩
  case round =>
    obtain ⟨rfl, l, h, hlh, hh, rfl, rfl, rfl, hlo, hhi⟩ := hrel
    have HL : Hid (∀ i, i < l → fa xs i ≤ x) := hlo
    have HH : Hid (∀ i, h ≤ i → i < xs.length → x < fa xs i) := hhi
    clear hlo hhi
    by_cases hlt : l < h
    · obtain ⟨b, off, rfl, h0, h1⟩ := hA (l + (h - l) / 2) (by omega)
      by_cases hc : fa xs (l + (h - l) / 2) ≤ x
      · go_wp2
        go_roundg (h - (l + (h - l) / 2 + 1))
        case measure => omega
        case rel => exact ⟨rfl, l + (h - l) / 2 + 1, h, by omega, hh, rfl, by go_num, rfl, search_up HW.out (by omega) hc, HH.out⟩
      · go_wp2
        go_roundg (l + (h - l) / 2 - l)
        case measure => omega
        case rel => exact ⟨rfl, l, l + (h - l) / 2, by omega, by omega, rfl, rfl, by go_num, HL.out, search_down HW.out (by omega) (by omega)⟩
    · have e : h = l := by omega
      subst e
      by_cases hz : 0 < h
      · obtain ⟨b, off, rfl, h0, h1⟩ := hA (h - 1) (by omega)
        have hcov := cov_found HW.out hh HL.out HH.out hz
        have HC : Hid (Cov xs x ↔ x < sa xs (h - 1)) := hcov
        clear hcov
        go_wp2
        go_ret
        exact ⟨_, rfl, by rw [HC.out]; simp, rfl⟩
      · have e : h = 0 := by omega
        subst e
        go_wp2
        go_ret
        exact ⟨_, rfl, ⟨fun h => (by cases h), fun h => absurd h (cov_none HH.out)⟩, rfl⟩
end Go.Proofs.Qxb6604105a
