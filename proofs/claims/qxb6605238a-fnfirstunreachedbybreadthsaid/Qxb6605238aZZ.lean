import Derived.Test.Qxb6605238aBfs
namespace Go.Proofs.Qxb6605238a
open Go.RowKit Go.Deep
set_option linter.unusedVariables false
set_option linter.unusedSimpArgs false

/-- 'make([]T, n)', T of two integer cells. -/
theorem run_make_pairs (t e : TypeId) (ht : Try.prog.underlying t = some (.slice e)) (hinfo : (Try.prog.info? e).map (fun i => (i.zero, i.size, i.bytes)) = some (some (.agg #[.int .i64 0, .int .i64 0]), 2, 16))
    (kl kc : IntKind) (n : Nat) (hn : n ≤ 1048576) (w : World) :
    (Instr.makeSlice t (.int kl (n : Int)) (.int kc (n : Int))).run Try.prog w = .ok (.slice (some ⟨w.heap.size, 0, none⟩) n n) (w.alloc (.cells (madeCells #[.int .i64 0, .int .i64 0] (n * 2)) e)) := by
  obtain ⟨i, hi, hzz⟩ := Option.map_eq_some_iff.1 hinfo
  simp only [Prod.mk.injEq] at hzz
  obtain ⟨hz, hs, hb⟩ := hzz
  have hr := run_make (P := Try.prog) w t e i _ ht hi hz kl kc n n (by omega) (Int.le_refl _) (by rw [hb]; omega) (by omega)
  simp only [Int.toNat_natCast, hs] at hr
  exact hr

/-- Cell j of a row of pairs. -/
def cv (xs : List (Int × Int)) (j : Nat) : Value := .int .i64 (if j % 2 = 0 then fa xs (j / 2) else sa xs (j / 2))
theorem cv_even (xs : List (Int × Int)) (i : Nat) : cv xs (i * 2) = .int .i64 (fa xs i) := by
  unfold cv
  rw [if_pos (by omega), show i * 2 / 2 = i by omega]
theorem cv_odd (xs : List (Int × Int)) (i : Nat) : cv xs (i * 2 + 1) = .int .i64 (sa xs i) := by
  unfold cv
  rw [if_neg (by omega), show (i * 2 + 1) / 2 = i by omega]

theorem rowIs_zeros (w : World) (n : Nat) (e : TypeId) : (w.alloc (.cells (madeCells #[.int .i64 0, .int .i64 0] n) e)).rowIs w.heap.size e n (fun _ => .int .i64 0) := by
  refine ⟨_, blk_alloc_new _ _, size_madeCells _ _, fun i hi => ?_⟩
  simp [madeCells, hi]
  have : i % 2 = 0 ∨ i % 2 = 1 := by omega
  rcases this with h | h <;> rw [h] <;> rfl

theorem pair_step {w : World} {g n : Nat} {e : TypeId} {xs : List (Int × Int)} {r : Nat} (h : w.rowIs g e n (upto (r * 2) (cv xs) (.int .i64 0))) :
    ((w.setCell ⟨g, r * 2, none⟩ (.int .i64 (fa xs r))).setCell ⟨g, r * 2 + 1, none⟩ (.int .i64 (sa xs r))).rowIs g e n (upto ((r + 1) * 2) (cv xs) (.int .i64 0)) := by
  have h1 := upto_set (V := cv xs) h
  rw [cv_even] at h1
  have h2 := upto_set (V := cv xs) h1
  rw [cv_odd] at h2
  rw [show (r + 1) * 2 = r * 2 + 1 + 1 by omega]
  exact h2

theorem prs_of_row {w : World} {g : Nat} {e : TypeId} {xs : List (Int × Int)} (h : w.rowIs g e (xs.length * 2) (cv xs)) : Prs w (some ⟨g, 0, none⟩) xs := by
  intro i hi
  refine ⟨g, 0, rfl, ?_, ?_⟩
  · rw [← cv_even, Nat.zero_add]; exact h.cell (by omega)
  · rw [← cv_odd, Nat.zero_add]; exact h.cell (by omega)

set_option maxHeartbeats 800000 in
theorem cloneArcs (a : Addr) (cap : Nat) (xs : List (Int × Int)) (w : World) (hR : Prs w (some a) xs) (hn2 : xs.length ≤ 65536) :
    Calls Try.prog 14 #[.slice (some a) xs.length cap] w fun e w' => e = .returned (.slice (some ⟨w.heap.size, 0, none⟩) xs.length xs.length) ∧ Copy w w' 35 (xs.length * 2) (cv xs) := by
  have hmk := run_make_pairs 34 35 Try.underlying34 info35 .i64 .i64 xs.length (by omega)
  have heq := fun w a n c => Lib.run_eql_slice_nil (P := Try.prog) w 34 35 a n c 0 0 Try.underlying34
  go_enter Try.func14, Try.ntmps14
  go_wp2
  clear hmk heq
  go_loopg [4] xs.length (fun g i wr => ∃ k : Nat, k ≤ xs.length ∧ g = xs.length - k ∧ i = .int .i64 k ∧ Copy w wr 35 (xs.length * 2) (upto (k * 2) (cv xs) (.int .i64 0)))
  case atStart => exact ⟨0, Nat.zero_le _, rfl, rfl, (Below.refl _ _).alloc (Nat.le_refl _) _, by simp, upto_zero (rowIs_zeros w _ 35)⟩
  case round =>
    obtain ⟨k, hk, rfl, rfl, hC⟩ := hrel
    by_cases hlt : k < xs.length
    · obtain ⟨b, off, e1, h0, h1⟩ := hR k hlt
      cases e1
      have c0 : wr.cell? ⟨b, off + k * 2, none⟩ = some (.int .i64 (fa xs k)) := by rw [hC.below.cell (cell_lt h0)]; exact h0
      have c1 : wr.cell? ⟨b, off + k * 2 + 1, none⟩ = some (.int .i64 (sa xs k)) := by rw [hC.below.cell (cell_lt h1)]; exact h1
      have c2 := upto_at hC.row (show k * 2 < xs.length * 2 by omega)
      have c3 := hC.row.cell (show k * 2 + 1 < xs.length * 2 by omega)
      unfold upto at c3
      rw [if_neg (by omega)] at c3
      have c4 := hC.row.frozen (k * 2)
      have c5 := hC.row.frozen (k * 2 + 1)
      clear h0 h1
      go_wp2
      go_roundg (xs.length - (k + 1))
      case measure => omega
      case rel => exact ⟨k + 1, by omega, rfl, by go_num, (hC.below.setCell (Nat.le_refl _) _).setCell (Nat.le_refl _) _, by simp [hC.size], pair_step hC.row⟩
    · have e : k = xs.length := by omega
      subst e
      go_wp2
      go_ret
      exact ⟨rfl, hC.below, hC.size, upto_full hC.row⟩

theorem cloneArcs_nil (w : World) : Calls Try.prog 14 #[.slice none 0 0] w fun e w' => e = .returned (.slice none 0 0) ∧ w' = w := by
  have heq := fun w a n c => Lib.run_eql_slice_nil (P := Try.prog) w 34 35 a n c 0 0 Try.underlying34
  go_enter Try.func14, Try.ntmps14
  go_wp2
  go_ret
  exact ⟨rfl, rfl⟩

/-- A vertex alone, or none: '-1'. -/
theorem dfs_zero (b1 o1 c1 c2 m : Nat) (A2 : Option Addr) (w : World) :
    Calls Try.prog 20 #[.slice (some ⟨b1, o1, none⟩) 1 c1, .slice A2 m c2] w fun e w' => e = .returned (.int .i64 (-1)) ∧ w' = w := by
  go_enter Try.func20, Try.ntmps20
  go_wp2
  go_ret
  exact ⟨rfl, rfl⟩
theorem bfs_zero (b1 o1 c1 c2 m : Nat) (A2 : Option Addr) (w : World) :
    Calls Try.prog 16 #[.slice (some ⟨b1, o1, none⟩) 1 c1, .slice A2 m c2] w fun e w' => e = .returned (.int .i64 (-1)) ∧ w' = w := by
  go_enter Try.func16, Try.ntmps16
  go_wp2
  go_ret
  exact ⟨rfl, rfl⟩
end Go.Proofs.Qxb6605238a
