import Derived.Test.Qxb6605238aRows
import Derived.Test.Qxb6605238aMem
namespace Go.Proofs.Qxb6605238a
open Go.RowKit Go.Deep
set_option linter.unusedVariables false
set_option linter.unusedSimpArgs false

theorem info3 : (Try.prog.info? 3).map (fun i => (i.zero, i.size, i.bytes)) = some (some (.int .i64 0), 1, 8) := by kernel_rfl
theorem info4 : (Try.prog.info? 4).map (fun i => (i.zero, i.size, i.bytes)) = some (some (.bool false), 1, 1) := by kernel_rfl
theorem info24 : (Try.prog.info? 24).map (fun i => (i.zero, i.size, i.bytes)) = some (some (.slice none 0 0), 1, 24) := by kernel_rfl
theorem info35 : (Try.prog.info? 35).map (fun i => (i.zero, i.size, i.bytes)) = some (some (.agg #[.int .i64 0, .int .i64 0]), 2, 16) := by kernel_rfl
theorem info47 : (Try.prog.info? 47).map (fun i => (i.zero, i.size, i.bytes)) = some (some (.agg #[.int .i64 0, .int .i64 0]), 2, 16) := by kernel_rfl

def IV (zs : List Int) : Nat → Value := fun i => .int .i64 (iz zs i)
def BV (bs : List Bool) : Nat → Value := fun i => .bool (bz bs i)


set_option maxHeartbeats 800000 in
theorem cloneInts13 (a : Addr) (cap : Nat) (n : Nat) (V : Nat → Int) (w : World) (hR : Cells w (some a) n (fun i => .int .i64 (V i))) (hn2 : n ≤ 1048576) :
    Calls Try.prog 13 #[.slice (some a) n cap] w fun e w' => e = .returned (.slice (some ⟨w.heap.size, 0, none⟩) n n) ∧ Copy w w' 3 n (fun i => .int .i64 (V i)) := by
  have hmk := run_make_row' (P := Try.prog) 24 3 (.int .i64 0) 8 Try.underlying24 info3 rfl .i64 .i64 n (by omega) (by omega)
  have heq := fun w a n c => Lib.run_eql_slice_nil (P := Try.prog) w 24 3 a n c 0 0 Try.underlying24
  go_enter Try.func13, Try.ntmps13
  go_wp2
  clear hmk heq
  go_loopg [4] n (fun g i wr => ∃ k : Nat, k ≤ n ∧ g = n - k ∧ i = .int .i64 k ∧ Copy w wr 3 n (upto k (fun i => .int .i64 (V i)) (.int .i64 0)))
  case atStart => exact ⟨0, Nat.zero_le _, rfl, rfl, (Below.refl _ _).alloc (Nat.le_refl _) _, by simp, upto_zero (World.rowIs_made w _ n 3)⟩
  case round =>
    obtain ⟨k, hk, rfl, rfl, hC⟩ := hrel
    by_cases hlt : k < n
    · obtain ⟨b, off, e1, h0⟩ := hR k hlt
      cases e1
      have c0 : wr.cell? ⟨b, off + k, none⟩ = some (.int .i64 (V k)) := by rw [hC.below.cell (cell_lt h0)]; exact h0
      have c1 := upto_at hC.row hlt
      have c2 := hC.row.frozen k
      clear h0
      go_wp2
      go_roundg (n - (k + 1))
      case measure => omega
      case rel => exact ⟨k + 1, by omega, rfl, by go_num, hC.below.setCell (Nat.le_refl _) _, by simp [hC.size], upto_set (V := fun i => .int .i64 (V i)) hC.row⟩
    · have e : k = n := by omega
      subst e
      go_wp2
      go_ret
      exact ⟨rfl, hC.below, hC.size, upto_full hC.row⟩

theorem cloneInts13_nil (w : World) : Calls Try.prog 13 #[.slice none 0 0] w fun e w' => e = .returned (.slice none 0 0) ∧ w' = w := by
  have heq := fun w a n c => Lib.run_eql_slice_nil (P := Try.prog) w 24 3 a n c 0 0 Try.underlying24
  go_enter Try.func13, Try.ntmps13
  go_wp2
  go_ret
  exact ⟨rfl, rfl⟩

set_option maxHeartbeats 800000 in
theorem cloneInts9 (a : Addr) (cap : Nat) (n : Nat) (V : Nat → Int) (w : World) (hR : Cells w (some a) n (fun i => .int .i64 (V i))) (hn2 : n ≤ 1048576) :
    Calls Try.prog 9 #[.slice (some a) n cap] w fun e w' => e = .returned (.slice (some ⟨w.heap.size, 0, none⟩) n n) ∧ Copy w w' 3 n (fun i => .int .i64 (V i)) := by
  have hmk := run_make_row' (P := Try.prog) 24 3 (.int .i64 0) 8 Try.underlying24 info3 rfl .i64 .i64 n (by omega) (by omega)
  have heq := fun w a n c => Lib.run_eql_slice_nil (P := Try.prog) w 24 3 a n c 0 0 Try.underlying24
  go_enter Try.func9, Try.ntmps9
  go_wp2
  clear hmk heq
  go_loopg [4] n (fun g i wr => ∃ k : Nat, k ≤ n ∧ g = n - k ∧ i = .int .i64 k ∧ Copy w wr 3 n (upto k (fun i => .int .i64 (V i)) (.int .i64 0)))
  case atStart => exact ⟨0, Nat.zero_le _, rfl, rfl, (Below.refl _ _).alloc (Nat.le_refl _) _, by simp, upto_zero (World.rowIs_made w _ n 3)⟩
  case round =>
    obtain ⟨k, hk, rfl, rfl, hC⟩ := hrel
    by_cases hlt : k < n
    · obtain ⟨b, off, e1, h0⟩ := hR k hlt
      cases e1
      have c0 : wr.cell? ⟨b, off + k, none⟩ = some (.int .i64 (V k)) := by rw [hC.below.cell (cell_lt h0)]; exact h0
      have c1 := upto_at hC.row hlt
      have c2 := hC.row.frozen k
      clear h0
      go_wp2
      go_roundg (n - (k + 1))
      case measure => omega
      case rel => exact ⟨k + 1, by omega, rfl, by go_num, hC.below.setCell (Nat.le_refl _) _, by simp [hC.size], upto_set (V := fun i => .int .i64 (V i)) hC.row⟩
    · have e : k = n := by omega
      subst e
      go_wp2
      go_ret
      exact ⟨rfl, hC.below, hC.size, upto_full hC.row⟩

theorem cloneInts9_nil (w : World) : Calls Try.prog 9 #[.slice none 0 0] w fun e w' => e = .returned (.slice none 0 0) ∧ w' = w := by
  have heq := fun w a n c => Lib.run_eql_slice_nil (P := Try.prog) w 24 3 a n c 0 0 Try.underlying24
  go_enter Try.func9, Try.ntmps9
  go_wp2
  go_ret
  exact ⟨rfl, rfl⟩

set_option maxHeartbeats 800000 in
theorem cloneBools8 (a : Addr) (cap : Nat) (n : Nat) (V : Nat → Bool) (w : World) (hR : Cells w (some a) n (fun i => .bool (V i))) (hn2 : n ≤ 1048576) :
    Calls Try.prog 8 #[.slice (some a) n cap] w fun e w' => e = .returned (.slice (some ⟨w.heap.size, 0, none⟩) n n) ∧ Copy w w' 4 n (fun i => .bool (V i)) := by
  have hmk := run_make_row' (P := Try.prog) 23 4 (.bool false) 1 Try.underlying23 info4 rfl .i64 .i64 n (by omega) (by omega)
  have heq := fun w a n c => Lib.run_eql_slice_nil (P := Try.prog) w 23 4 a n c 0 0 Try.underlying23
  go_enter Try.func8, Try.ntmps8
  go_wp2
  clear hmk heq
  go_loopg [4] n (fun g i wr => ∃ k : Nat, k ≤ n ∧ g = n - k ∧ i = .int .i64 k ∧ Copy w wr 4 n (upto k (fun i => .bool (V i)) (.bool false)))
  case atStart => exact ⟨0, Nat.zero_le _, rfl, rfl, (Below.refl _ _).alloc (Nat.le_refl _) _, by simp, upto_zero (World.rowIs_made w _ n 4)⟩
  case round =>
    obtain ⟨k, hk, rfl, rfl, hC⟩ := hrel
    by_cases hlt : k < n
    · obtain ⟨b, off, e1, h0⟩ := hR k hlt
      cases e1
      have c0 : wr.cell? ⟨b, off + k, none⟩ = some (.bool (V k)) := by rw [hC.below.cell (cell_lt h0)]; exact h0
      have c1 := upto_at hC.row hlt
      have c2 := hC.row.frozen k
      clear h0
      go_wp2
      go_roundg (n - (k + 1))
      case measure => omega
      case rel => exact ⟨k + 1, by omega, rfl, by go_num, hC.below.setCell (Nat.le_refl _) _, by simp [hC.size], upto_set (V := fun i => .bool (V i)) hC.row⟩
    · have e : k = n := by omega
      subst e
      go_wp2
      go_ret
      exact ⟨rfl, hC.below, hC.size, upto_full hC.row⟩

theorem cloneBools8_nil (w : World) : Calls Try.prog 8 #[.slice none 0 0] w fun e w' => e = .returned (.slice none 0 0) ∧ w' = w := by
  have heq := fun w a n c => Lib.run_eql_slice_nil (P := Try.prog) w 23 4 a n c 0 0 Try.underlying23
  go_enter Try.func8, Try.ntmps8
  go_wp2
  go_ret
  exact ⟨rfl, rfl⟩

end Go.Proofs.Qxb6605238a
