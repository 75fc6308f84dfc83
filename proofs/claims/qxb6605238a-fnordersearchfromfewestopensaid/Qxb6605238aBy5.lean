import Derived.Test.Qxb6605238aSimple
namespace Go.Proofs.Qxb6605238a
open Go.RowKit Go.Deep
set_option linter.unusedVariables false
set_option linter.unusedSimpArgs false

set_option maxRecDepth 100000 in
set_option maxHeartbeats 4000000 in
theorem bytes5_any (A : Option Addr) (n c : Nat) (zz : Nat → List Int) (w : World) (hZ : NbZ w A n zz) (wk st : Int) (A1 A2 A3 A4 A5 A6 : Option Addr) (n1 c1 n2 c2 n3 c3 n4 c4 n5 c5 n6 c6 : Nat) :
    Calls Try.prog 5 #[.slice A n c, .slice A1 n1 c1, .slice A2 n2 c2, .slice A3 n3 c3, .slice A4 n4 c4, .slice A5 n5 c5, .int .i64 wk, .int .i64 st, .slice A6 n6 c6] w fun e w' => ∃ t : Bool, e = .returned (.bool t) ∧ w' = w := by
  have HZ := hide hZ
  clear hZ
  go_enter Try.func5, Try.ntmps5
  by_cases h0 : n ≤ 1048576
  case neg =>
    have q : decide ((1048576 : Int) < (n : Int)) = true := by simp; omega
    go_wp2_with fail
    go_ret
    exact ⟨false, rfl, rfl⟩
  have q : decide ((1048576 : Int) < (n : Int)) = false := by simp; omega
  go_wp2_with fail
  go_loopg [19, 20] n (fun g z i wr => w = wr ∧ ∃ k s : Nat, k ≤ n ∧ s ≤ 1048576 ∧ g = n - k ∧ i = .int .i64 k ∧ z = .int .i64 s)
  case atStart => exact ⟨rfl, 0, n, Nat.zero_le _, h0, rfl, rfl, rfl⟩
  case round =>
    obtain ⟨rfl, k, s, hk, hs, rfl, rfl, rfl⟩ := hrel
    by_cases hlt : k < n
    · obtain ⟨b, off, A', c', rfl, g0, _, _⟩ := HZ.out k hlt
      by_cases h1 : (zz k).length ≤ 1048576
      · have q1 : decide ((1048576 : Int) < ((zz k).length : Int)) = false := by simp; omega
        by_cases h2 : s + (zz k).length ≤ 1048576
        · have q2 : decide ((1048576 : Int) < (s : Int) + ((zz k).length : Int)) = false := by simp; omega
          go_wp2_with fail
          go_roundg (n - (k + 1))
          case measure => omega
          case rel => exact ⟨rfl, k + 1, s + (zz k).length, by omega, h2, rfl, by go_num, by go_num⟩
        · have q2 : decide ((1048576 : Int) < (s : Int) + ((zz k).length : Int)) = true := by simp; omega
          go_wp2_with fail
          go_ret
          exact ⟨false, rfl, rfl⟩
      · have q1 : decide ((1048576 : Int) < ((zz k).length : Int)) = true := by simp; omega
        go_wp2_with fail
        go_ret
        exact ⟨false, rfl, rfl⟩
    · go_wp2_with fail
      all_goals
        go_ret
        exact ⟨_, rfl, rfl⟩
end Go.Proofs.Qxb6605238a
