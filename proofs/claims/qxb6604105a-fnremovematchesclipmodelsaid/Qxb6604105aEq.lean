import Derived.Test.Qxb6604105aReads3
namespace Go.Proofs.Qxb6604105a
open Go.RowKit Go.Deep
set_option linter.unusedVariables false
set_option linter.unusedSimpArgs false

theorem fields41 : Try.prog.underlying 41 = some (.struct (Try.prog.fieldsOf 41)) := by
  simp [Program.fieldsOf, Try.underlying41]
theorem held41 : Try.prog.stoodInHeld 41 = false := by kernel_rfl
theorem guard41 : Try.prog.eqGuardType Try.prog.depth 41 = false := by kernel_rfl

set_option maxHeartbeats 800000 in
theorem equal_any (A A2 : Option Addr) (cap cap2 : Nat) (xs ys : List (Int × Int)) (w : World) (hA : Prs w A xs) (hA2 : Prs w A2 ys) (hn : xs.length ≤ 1048576) :
    Calls Try.prog 22 #[.slice A xs.length cap, .slice A2 ys.length cap2] w fun e w' => ∃ t : Bool, e = .returned (.bool t) ∧ (t = true ↔ xs = ys) ∧ ∃ m, w' = w.drewN m := by
  by_cases hl : xs.length = ys.length
  · have hA2' : Hid (Prs w A2 ys) := hA2
    have HL : Hid (xs.length = ys.length) := hl
    rw [← hl]
    clear hl hA2
    go_enter Try.func22, Try.ntmps22
    go_wp2
    go_loopg [13] xs.length (fun g i wr => (∃ m, wr = w.drewN m) ∧ ∃ k : Nat, k ≤ xs.length ∧ g = xs.length - k ∧ i = .int .i64 k ∧ ∀ i, i < k → fa xs i = fa ys i ∧ sa xs i = sa ys i)
    case atStart => exact ⟨⟨0, rfl⟩, 0, Nat.zero_le _, rfl, rfl, fun i hi => absurd hi (Nat.not_lt_zero _)⟩
    case round =>
      obtain ⟨⟨m, rfl⟩, k, hk, rfl, rfl, hall⟩ := hrel
      have HA : Hid (∀ i, i < k → fa xs i = fa ys i ∧ sa xs i = sa ys i) := hall
      clear hall
      by_cases hlt : k < xs.length
      · obtain ⟨b, off, rfl, h0, h1⟩ := hA k hlt
        obtain ⟨b2, off2, rfl, h2, h3⟩ := hA2'.out k (by rw [← HL.out]; exact hlt)
        have f2 := held41
        have f3 := guard41
        by_cases hc : fa xs k = fa ys k
        · by_cases hd : sa xs k = sa ys k
          · have hc' : (fa xs k == fa ys k) = true := by simpa using hc
            have hd' : (sa xs k == sa ys k) = true := by simpa using hd
            have HC : Hid (fa xs k = fa ys k ∧ sa xs k = sa ys k) := ⟨hc, hd⟩
            clear hc hd
            go_wp2
            go_quiet (fail)
            go_wp2
            go_roundg (xs.length - (k + 1))
            case measure => omega
            case rel =>
              refine ⟨by first | exact ⟨_, rfl⟩ | exact dr2 _ _ _, k + 1, by omega, rfl, by go_num, fun i hi => ?_⟩
              by_cases e : i = k
              · subst e; exact HC.out
              · exact HA.out i (by omega)
          · have hc' : (fa xs k == fa ys k) = true := by simpa using hc
            have hd' : (sa xs k == sa ys k) = false := by simpa using hd
            have HC : Hid (xs ≠ ys) := ne_same hlt (fun h => hd h.2)
            clear hc hd
            go_wp2
            go_quiet (fail)
            go_wp2
            go_ret
            exact ⟨_, rfl, ⟨fun h => (by cases h), fun h => absurd h HC.out⟩, by first | exact ⟨_, rfl⟩ | exact dr2 _ _ _⟩
        · have hc' : (fa xs k == fa ys k) = false := by simpa using hc
          have HC : Hid (xs ≠ ys) := ne_same hlt (fun h => hc h.1)
          clear hc
          go_wp2
          go_quiet (fail)
          go_wp2
          go_ret
          exact ⟨_, rfl, ⟨fun h => (by cases h), fun h => absurd h HC.out⟩, by first | exact ⟨_, rfl⟩ | exact dr2 _ _ _⟩
      · go_wp2
        go_ret
        exact ⟨_, rfl, ⟨fun _ => Same.iff.1 ⟨HL.out, fun i hi => HA.out i (by omega)⟩, fun _ => rfl⟩, _, rfl⟩
  · have HN : Hid (xs ≠ ys) := fun h => hl (by rw [h])
    have hl' : ((xs.length : Int) != (ys.length : Int)) = true := by simp; omega
    clear hl
    go_enter Try.func22, Try.ntmps22
    go_wp2
    go_ret
    exact ⟨_, rfl, ⟨fun h => (by cases h), fun h => absurd h HN.out⟩, 0, rfl⟩
end Go.Proofs.Qxb6604105a
