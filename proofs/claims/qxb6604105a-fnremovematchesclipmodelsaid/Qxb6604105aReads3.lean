import Derived.Test.Qxb6604105aReads2
namespace Go.Proofs.Qxb6604105a
open Go.RowKit Go.Deep
set_option linter.unusedVariables false
set_option linter.unusedSimpArgs false

set_option maxHeartbeats 400000 in
theorem probe_any (A A2 : Option Addr) (cap cap2 : Nat) (xs ys : List (Int × Int)) (x f g : Int) (w : World) (hA : Prs w A xs) (hA2 : Prs w A2 ys) (hw : WF xs) (hw2 : WF ys) (hn : xs.length ≤ 1048576) (hn2 : ys.length ≤ 1048576)
    (hrem : Cov ys x ↔ Cov xs x ∧ ¬ (f ≤ x ∧ x < g)) :
    Calls Try.prog 15 #[.slice A xs.length cap, .slice A2 ys.length cap2, .int .i64 x, .int .i64 f, .int .i64 g] w fun e w' => e = .returned (.bool true) ∧ w' = w := by
  have HR : Hid (Cov ys x ↔ Cov xs x ∧ ¬ (f ≤ x ∧ x < g)) := hrem
  have HW : Hid (WF xs) := hw
  have HW2 : Hid (WF ys) := hw2
  clear hrem hw hw2
  by_cases hin : f ≤ x ∧ x < g
  · obtain ⟨h1, h2⟩ := hin
    go_enter Try.func15, Try.ntmps15
    go_wp2_with fail
    refine (covered_any A2 cap2 ys x w hA2 HW2.out hn2).mono ?_
    rintro e w' ⟨t, rfl, ht, rfl⟩
    have ht' : t = false := by
      cases t
      · rfl
      · have := (HR.out.1 (ht.1 rfl)).2
        exact absurd ⟨h1, h2⟩ this
    subst ht'
    clear ht
    go_wp2_with fail
    refine (covered_any A cap xs x _ hA HW.out hn).mono ?_
    rintro e w' ⟨t, rfl, ht, rfl⟩
    clear ht
    cases t
    all_goals
      go_wp2_with fail
      go_ret
      exact ⟨rfl, rfl⟩
  · by_cases h1 : f ≤ x
    · have h2 : ¬ x < g := fun h => hin ⟨h1, h⟩
      have HR2 : Hid (Cov ys x ↔ Cov xs x) := by
        have := HR.out
        show Cov ys x ↔ Cov xs x
        rw [this]; exact ⟨fun h => h.1, fun h => ⟨h, hin⟩⟩
      clear hin HR
      go_enter Try.func15, Try.ntmps15
      go_wp2_with fail
      refine (covered_any A2 cap2 ys x w hA2 HW2.out hn2).mono ?_
      rintro e w' ⟨t, rfl, ht, rfl⟩
      have HT : Hid (t = true ↔ Cov ys x) := ht
      clear ht
      cases t
      all_goals
        go_wp2_with fail
        refine (covered_any A cap xs x _ hA HW.out hn).mono ?_
        rintro e w' ⟨t, rfl, ht, rfl⟩
        have ht' := (HT.out.trans HR2.out).trans ht.symm
        clear ht
        cases t
        all_goals first
          | (exfalso; simp at ht'; done)
          | (clear ht'
             go_wp2_with fail
             go_ret
             exact ⟨rfl, rfl⟩)
    · have HR2 : Hid (Cov ys x ↔ Cov xs x) := by
        have := HR.out
        show Cov ys x ↔ Cov xs x
        rw [this]; exact ⟨fun h => h.1, fun h => ⟨h, hin⟩⟩
      clear hin HR
      go_enter Try.func15, Try.ntmps15
      go_wp2_with fail
      refine (covered_any A2 cap2 ys x w hA2 HW2.out hn2).mono ?_
      rintro e w' ⟨t, rfl, ht, rfl⟩
      have HT : Hid (t = true ↔ Cov ys x) := ht
      clear ht
      cases t
      all_goals
        go_wp2_with fail
        refine (covered_any A cap xs x _ hA HW.out hn).mono ?_
        rintro e w' ⟨t, rfl, ht, rfl⟩
        have ht' := (HT.out.trans HR2.out).trans ht.symm
        clear ht
        cases t
        all_goals first
          | (exfalso; simp at ht'; done)
          | (clear ht'
             go_wp2_with fail
             go_ret
             exact ⟨rfl, rfl⟩)

set_option maxHeartbeats 400000 in
theorem touched_any (a b f g : Int) (w : World) :
    Calls Try.prog 12 #[.int .i64 a, .int .i64 b, .int .i64 f, .int .i64 g] w fun e w' => ∃ t : Bool, e = .returned (.bool t) ∧ (t = true ↔ Tch f g (a, b)) ∧ w' = w := by
  by_cases h : a = b
  · subst h
    by_cases h1 : f ≤ a
    · go_enter Try.func12, Try.ntmps12
      go_wp2
      go_ret
      refine ⟨_, rfl, ?_, rfl⟩
      simp [Tch, h1]
    · go_enter Try.func12, Try.ntmps12
      go_wp2
      go_ret
      exact Or.inl ⟨rfl, by simp [Tch]; omega, rfl⟩
  · by_cases h1 : f < b
    · go_enter Try.func12, Try.ntmps12
      go_wp2
      go_ret
      refine ⟨_, rfl, ?_, rfl⟩
      simp [Tch, h1, h]
    · go_enter Try.func12, Try.ntmps12
      go_wp2
      go_ret
      exact Or.inl ⟨rfl, by simp [Tch, h]; omega, rfl⟩

theorem ne_same {xs ys : List (Int × Int)} {k : Nat} (hk : k < xs.length) (h : ¬ (fa xs k = fa ys k ∧ sa xs k = sa ys k)) : xs ≠ ys := by
  intro e
  exact h ((Same.iff.2 e).2 k hk)

set_option maxHeartbeats 800000 in
theorem same_any (A A2 : Option Addr) (cap cap2 : Nat) (xs ys : List (Int × Int)) (w : World) (hA : Prs w A xs) (hA2 : Prs w A2 ys) (hn : xs.length ≤ 1048576) :
    Calls Try.prog 10 #[.slice A xs.length cap, .slice A2 ys.length cap2] w fun e w' => ∃ t : Bool, e = .returned (.bool t) ∧ (t = true ↔ xs = ys) ∧ ∃ m, w' = w.drewN m := by
  by_cases hl : xs.length = ys.length
  · have hA2' : Hid (Prs w A2 ys) := hA2
    have HL : Hid (xs.length = ys.length) := hl
    rw [← hl]
    clear hl hA2
    go_enter Try.func10, Try.ntmps10
    go_wp2
    go_loopg [5] xs.length (fun g i wr => (∃ m, wr = w.drewN m) ∧ ∃ k : Nat, k ≤ xs.length ∧ g = xs.length - k ∧ i = .int .i64 k ∧ ∀ i, i < k → fa xs i = fa ys i ∧ sa xs i = sa ys i)
    case atStart => exact ⟨⟨0, rfl⟩, 0, Nat.zero_le _, rfl, rfl, fun i hi => absurd hi (Nat.not_lt_zero _)⟩
    case round =>
      obtain ⟨⟨m, rfl⟩, k, hk, rfl, rfl, hall⟩ := hrel
      have HA : Hid (∀ i, i < k → fa xs i = fa ys i ∧ sa xs i = sa ys i) := hall
      clear hall
      by_cases hlt : k < xs.length
      · obtain ⟨b, off, rfl, h0, h1⟩ := hA k hlt
        obtain ⟨b2, off2, rfl, h2, h3⟩ := hA2'.out k (by rw [← HL.out]; exact hlt)
        by_cases hc : fa xs k = fa ys k
        · by_cases hd : sa xs k = sa ys k
          · have hc' : (fa xs k != fa ys k) = false := by simpa using hc
            have hd' : (sa xs k != sa ys k) = false := by simpa using hd
            have HC : Hid (fa xs k = fa ys k ∧ sa xs k = sa ys k) := ⟨hc, hd⟩
            clear hc hd
            go_wp2
            go_quiet (fail)
            go_wp2
            go_roundg (xs.length - (k + 1))
            case measure => omega
            case rel =>
              refine ⟨by first | exact ⟨_, rfl⟩ | exact dr2 _ _ _, k + 1, by omega, rfl, by go_num, fun i hi => ?_⟩
              by_cases e : i = k
              · subst e; exact HC.out
              · exact HA.out i (by omega)
          · have hc' : (fa xs k != fa ys k) = false := by simpa using hc
            have hd' : (sa xs k != sa ys k) = true := by simpa using hd
            have HC : Hid (xs ≠ ys) := ne_same hlt (fun h => hd h.2)
            clear hc hd
            go_wp2
            go_quiet (fail)
            go_wp2
            go_ret
            exact ⟨_, rfl, ⟨fun h => (by cases h), fun h => absurd h HC.out⟩, by first | exact ⟨_, rfl⟩ | exact dr2 _ _ _⟩
        · have hc' : (fa xs k != fa ys k) = true := by simpa using hc
          have HC : Hid (xs ≠ ys) := ne_same hlt (fun h => hc h.1)
          clear hc
          go_wp2
          go_quiet (fail)
          go_wp2
          go_ret
          exact ⟨_, rfl, ⟨fun h => (by cases h), fun h => absurd h HC.out⟩, by first | exact ⟨_, rfl⟩ | exact dr2 _ _ _⟩
      · go_wp2
        go_ret
        exact ⟨_, rfl, ⟨fun _ => Same.iff.1 ⟨HL.out, fun i hi => HA.out i (by omega)⟩, fun _ => rfl⟩, _, rfl⟩
  · have HN : Hid (xs ≠ ys) := fun h => hl (by rw [h])
    have hl' : ((xs.length : Int) != (ys.length : Int)) = true := by simp; omega
    clear hl
    go_enter Try.func10, Try.ntmps10
    go_wp2
    go_ret
    exact ⟨_, rfl, ⟨fun h => (by cases h), fun h => absurd h HN.out⟩, 0, rfl⟩
end Go.Proofs.Qxb6604105a
