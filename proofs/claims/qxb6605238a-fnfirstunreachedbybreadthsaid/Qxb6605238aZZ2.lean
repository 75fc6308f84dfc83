import Derived.Test.Qxb6605238aZZ
namespace Go.Proofs.Qxb6605238a
open Go.RowKit Go.Deep
set_option linter.unusedVariables false
set_option linter.unusedSimpArgs false

/-- ZZFirstUnreached: the arcs are laid anew, then firstUnreached is asked. -/
theorem zz15_any (b1 o1 c1 c2 n : Nat) (A2 : Option Addr) (xs : List (Int × Int)) (w : World) (hP : Prs w A2 xs) (hx : xs.length ≤ 65536) (Q : Int → Prop)
    (hcall : ∀ w1 N, Below w.heap.size w w1 → Prs w1 (some ⟨N, 0, none⟩) xs → Calls Try.prog 20 #[.slice (some ⟨b1, o1, none⟩) n c1, .slice (some ⟨N, 0, none⟩) xs.length xs.length] w1 fun e w' => ∃ a : Int, e = .returned (.int .i64 a) ∧ Q a ∧ Below w1.heap.size w1 w') :
    Calls Try.prog 15 #[.slice (some ⟨b1, o1, none⟩) n c1, .slice A2 xs.length c2] w fun e w' => ∃ a : Int, e = .returned (.int .i64 a) ∧ Q a ∧ Below w.heap.size w w' := by
  have HC := hide hcall
  clear hcall
  have hmk := run_make_pairs 45 47 Try.underlying45 info47 .i64 .i64 xs.length (by omega)
  go_enter Try.func15, Try.ntmps15
  go_wp2_with fail
  clear hmk
  go_loopg [12] xs.length (fun g i wr => ∃ k : Nat, k ≤ xs.length ∧ g = xs.length - k ∧ i = .int .i64 k ∧ Copy w wr 47 (xs.length * 2) (upto (k * 2) (cv xs) (.int .i64 0)))
  case atStart => exact ⟨0, Nat.zero_le _, rfl, rfl, (Below.refl _ _).alloc (Nat.le_refl _) _, by simp, upto_zero (rowIs_zeros w _ 47)⟩
  case round =>
    obtain ⟨k, hk, rfl, rfl, hC⟩ := hrel
    by_cases hlt : k < xs.length
    · obtain ⟨b, off, rfl, h0, h1⟩ := hP k hlt
      have c0 : wr.cell? ⟨b, off + k * 2, none⟩ = some (.int .i64 (fa xs k)) := by rw [hC.below.cell (cell_lt h0)]; exact h0
      have c1 : wr.cell? ⟨b, off + k * 2 + 1, none⟩ = some (.int .i64 (sa xs k)) := by rw [hC.below.cell (cell_lt h1)]; exact h1
      have c2 := upto_at hC.row (show k * 2 < xs.length * 2 by omega)
      have c3 := hC.row.cell (show k * 2 + 1 < xs.length * 2 by omega)
      unfold upto at c3
      rw [if_neg (by omega)] at c3
      have c4 := hC.row.frozen (k * 2)
      have c5 := hC.row.frozen (k * 2 + 1)
      clear h0 h1
      go_wp2_with fail
      go_region
      go_wp2_with fail
      go_roundg (xs.length - (k + 1))
      case measure => omega
      case rel => exact ⟨k + 1, by omega, rfl, by go_num, ((hC.below.setCell (Nat.le_refl _) _).setCell (Nat.le_refl _) _).drew, by simp [hC.size], pair_step hC.row⟩
    · have e : k = xs.length := by omega
      subst e
      have hrow := prs_of_row (upto_full hC.row)
      have hb := hC.below
      clear hC
      go_wp2_with fail
      refine (HC.out _ _ hb hrow).mono ?_
      rintro e w' ⟨a, rfl, hq, hb2⟩
      have HQ := hide hq
      clear hq
      go_wp2_with fail
      go_ret
      exact ⟨a, rfl, HQ.out, hb.trans (hb2.mono hb.size)⟩
end Go.Proofs.Qxb6605238a
