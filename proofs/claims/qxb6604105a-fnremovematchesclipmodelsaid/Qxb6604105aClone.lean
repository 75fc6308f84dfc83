import Derived.Test.Qxb6604105aTop
namespace Go.Proofs.Qxb6604105a
open Go.RowKit Go.Deep
set_option linter.unusedVariables false
set_option linter.unusedSimpArgs false

set_option maxHeartbeats 1600000 in
theorem clone_any (A : Option Addr) (n cap : Nat) (R : Nat → List (Int × Int)) (IA : Nat → Option Addr) (C : Nat → Nat) (w : World) (hR : Rng w A n R IA C) (hn : 0 < n) (hn2 : n ≤ 65536) (hL : ∀ i, i < n → (R i).length ≤ 262144) :
    Calls Try.prog 8 #[.slice A n cap] w fun e w' => e = .returned (.slice (some ⟨w.heap.size, 0, none⟩) n n) ∧ ∃ V, Top w w' 26 33 n n R IA V := by
  obtain ⟨b, off, rfl, h00⟩ := hR.cell 0 hn
  have hbw : b < w.heap.size := cell_lt h00
  clear h00
  have hmk := run_make_row' (P := Try.prog) 22 26 (.slice none 0 0) 24 Try.underlying22 info26 rfl .i64 .i64 n (by omega) (by omega)
  have heq := fun w a n c => Lib.run_eql_slice_nil (P := Try.prog) w 22 26 a n c 0 0 Try.underlying22
  go_enter Try.func8, Try.ntmps8
  go_wp2
  clear hmk heq
  go_loopg [4] n (fun g i wr => ∃ k : Nat, k ≤ n ∧ g = n - k ∧ i = .int .i64 k ∧ ∃ V, Top w wr 26 33 n k R IA V)
  case atStart => exact ⟨0, Nat.zero_le _, rfl, rfl, _, top_start w 26 33 n R IA⟩
  case round =>
    obtain ⟨k, hk, rfl, rfl, V, hT⟩ := hrel
    by_cases hlt : k < n
    · have heq2 := fun w a n c => Lib.run_eql_slice_nil (P := Try.prog) w 26 33 a n c 0 0 Try.underlying26
      obtain ⟨b', off', e1, h0⟩ := hR.cell k hlt
      cases e1
      have hc : wr.cell? ⟨b, off + k, none⟩ = some (.slice (IA k) (R k).length (C k)) := by rw [hT.below.cell (show b < w.heap.size from hbw)]; exact h0
      by_cases hnil : IA k = none
      · rw [hnil] at hc
        have HN : Hid (IA k = none) := hnil
        clear hnil h0
        go_wp2
        go_roundg (n - (k + 1))
        case measure => omega
        case rel => exact ⟨k + 1, by omega, rfl, by go_num, _, hT.skip HN.out (hR.bare k hlt HN.out)⟩
      · obtain ⟨a, ha⟩ : ∃ a, IA k = some a := by
          cases h : IA k with
          | none => exact absurd h hnil
          | some a => exact ⟨a, rfl⟩
        have HN : Hid (IA k ≠ none) := hnil
        have hLk := hL k hlt
        rw [ha] at hc
        have hrow := hR.row k hlt
        rw [ha] at hrow
        rw [ha] at h0
        have HC0 : Hid (w.cell? ⟨b, off + k, none⟩ = some (.slice (some a) (R k).length (C k))) := h0
        clear hnil h0 ha
        have hmk := run_make_pairs 26 33 Try.underlying26 info33 .i64 .i64 (R k).length (by omega)
        go_wp2
        clear hmk heq2 hc
        have hM0 := mid_start hT
        clear hT
        generalize wr.heap.size = gB at hM0 ⊢
        go_loopg [6] (R k).length (fun g i wi => ∃ r : Nat, r ≤ (R k).length ∧ g = (R k).length - r ∧ i = .int .i64 r ∧ Mid w wi 26 33 n k R IA V gB r)
        case atStart => exact ⟨0, Nat.zero_le _, rfl, rfl, hM0⟩
        case round =>
          clear hM0
          obtain ⟨r, hr, rfl, rfl, hM⟩ := hrel
          have c1 : wr.cell? ⟨b, off + k, none⟩ = some (.slice (some a) (R k).length (C k)) := by rw [hM.top.below.cell (show b < w.heap.size from hbw)]; exact HC0.out
          by_cases hrl : r < (R k).length
          · obtain ⟨b2, off2, e2, p0, p1⟩ := hrow r hrl
            cases e2
            have c2 : wr.cell? ⟨b2, off2 + r * 2, none⟩ = some (.int .i64 (fa (R k) r)) := by rw [hM.top.below.cell (cell_lt p0)]; exact p0
            have c3 : wr.cell? ⟨b2, off2 + r * 2 + 1, none⟩ = some (.int .i64 (sa (R k) r)) := by rw [hM.top.below.cell (cell_lt p1)]; exact p1
            have c4 := hM.part.cell0 hrl
            have c5 := hM.part.cell1 hrl
            have c6 := World.rowIs.frozen hM.part (r * 2)
            have c7 := World.rowIs.frozen hM.part (r * 2 + 1)
            clear p0 p1
            go_wp2
            go_roundg ((R k).length - (r + 1))
            case measure => omega
            case rel => exact ⟨r + 1, by omega, rfl, by go_num, hM.step⟩
          · have : r = (R k).length := by omega
            subst this
            have c8 := hM.top.top.cell hlt
            rw [if_neg (Nat.lt_irrefl _)] at c8
            have c9 := hM.top.top.frozen k
            go_wp2
            go_roundg (n - (k + 1))
            case measure => omega
            case rel => exact ⟨k + 1, by omega, rfl, by go_num, _, hM.done HN.out⟩
    · go_wp2
      go_ret
      have : k = n := by omega
      subst this
      exact ⟨rfl, V, hT⟩
end Go.Proofs.Qxb6604105a
