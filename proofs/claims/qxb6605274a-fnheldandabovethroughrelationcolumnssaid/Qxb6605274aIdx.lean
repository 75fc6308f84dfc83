import Derived.Test.Qxb6605274aBuf
namespace Go.Proofs.Qxb6605274a
open Go.RowKit
set_option linter.unusedVariables false
set_option linter.unusedSimpArgs false

theorem idx_at (s : ByteArray) (k j : Nat) (h : k + j < s.size) (w : World) : (Instr.index 9 (.string s) (.int .i64 ((k : Int) + (j : Int)))).run Try.prog w = .ok (.int .u8 (s[k + j].toNat : Int)) w := by
  rw [run_index_string w 9 s .i64 _ Try.underlying9]
  have e2 : ((k : Int) + (j : Int)).toNat = k + j := by omega
  rw [dif_pos ⟨by omega, by omega⟩]
  simp only [e2]

/-- 'sub' stands in s at p. -/
def Occ (s sub : ByteArray) (p : Nat) : Prop := p + sub.size ≤ s.size ∧ ∀ j (h1 : p + j < s.size) (h2 : j < sub.size), s[p + j] = sub[j]

set_option maxRecDepth 100000 in
set_option maxHeartbeats 1600000 in
theorem index_any (s sub : ByteArray) (f p : Nat) (w : World) (hs : s.size ≤ 100000000) (hf : f ≤ p) (ho : Occ s sub p) :
    Calls Try.prog 16 #[.string s, .string sub, .int .i64 f] w fun e w' => ∃ i : Nat, e = .returned (.int .i64 i) ∧ f ≤ i ∧ i ≤ p ∧ ∃ m, w' = w.drewN m := by
  have HO := hide ho
  have hps := ho.1
  clear ho
  have hd0 : decide ((f : Int) < 0) = false := by simp
  go_enter Try.func16, Try.ntmps16
  go_wp2
  go_loopg [7] (p - f) (fun g i wr => (∃ m, wr = w.drewN m) ∧ ∃ k : Nat, f ≤ k ∧ k ≤ p ∧ g = p - k ∧ i = .int .i64 k)
  case atStart => exact ⟨⟨0, rfl⟩, f, Nat.le_refl _, hf, rfl, rfl⟩
  case round =>
    obtain ⟨⟨m, rfl⟩, k, hk1, hk2, rfl, rfl⟩ := hrel
    go_wp2
    go_loopg [8] sub.size (fun g i wr => (∃ m, wr = w.drewN m) ∧ ∃ j : Nat, j ≤ sub.size ∧ g = sub.size - j ∧ i = .int .i64 j)
    case atStart => exact ⟨⟨m, rfl⟩, 0, Nat.zero_le _, rfl, rfl⟩
    case round =>
      obtain ⟨⟨m2, rfl⟩, j, hj, rfl, rfl⟩ := hrel
      by_cases hlt : j < sub.size
      · have hb1 : k + j < s.size := by omega
        have hix := idx_at s k j hb1
        have hw : IntKind.i64.wrap ((k : Int) + (j : Int)) = ((k + j : Nat) : Int) := by rw [IntKind.wrap_i64]; omega
        by_cases heq : s[k + j] = sub[j]
        · have hq : ((s[k + j].toNat : Int) == (sub[j].toNat : Int)) = true := by rw [heq]; simp
          clear heq
          go_wp2
          go_quiet (fail)
          go_wp2
          go_roundg (sub.size - (j + 1))
          case measure => omega
          case rel => exact ⟨by first | exact ⟨_, rfl⟩ | exact ⟨_, by rw [World.drewN_drewN]⟩, j + 1, by omega, rfl, by go_num⟩
        · have hq : ((s[k + j].toNat : Int) == (sub[j].toNat : Int)) = false := by
            simp
            intro h
            exact heq (UInt8.toNat.inj (by omega))
          have hkp : k < p := by
            rcases Nat.lt_or_ge k p with h | h
            · exact h
            · have e : k = p := by omega
              subst e
              exact absurd (HO.out.2 j hb1 hlt) heq
          have hne : ((j : Int) == (sub.size : Int)) = false := by simp; omega
          clear heq
          go_wp2
          go_quiet (fail)
          go_wp2
          go_roundg (p - (k + 1))
          case measure => omega
          case rel => exact ⟨by first | exact ⟨_, rfl⟩ | exact ⟨_, by rw [World.drewN_drewN]⟩, k + 1, by omega, by omega, rfl, by go_num⟩
      · have hdd : decide ((j : Int) < (sub.size : Int)) = false := by simp; omega
        have hne : ((j : Int) == (sub.size : Int)) = true := by simp; omega
        go_wp2
        go_quiet (fail)
        go_wp2
        go_ret
        exact ⟨k, rfl, hk1, hk2, by first | exact ⟨_, rfl⟩ | exact ⟨_, by rw [World.drewN_drewN]⟩⟩

set_option maxHeartbeats 400000 in
theorem bytes19_any (a b : ByteArray) (w : World) (ha : a.size ≤ maxLen) (hb : b.size ≤ maxLen) :
    Calls Try.prog 19 #[.string a, .string b] w fun e w' => ∃ t : Bool, e = .returned (.bool t) ∧ w' = w ∧ (t = true → a.size + b.size ≤ 1048576) := by
  unfold maxLen at ha hb
  by_cases h1 : a.size ≤ 1048576
  · by_cases h2 : b.size ≤ 1048576
    · by_cases h3 : a.size + b.size ≤ 1048576
      · go_enter Try.func19, Try.ntmps19
        go_wp2
        go_ret
        exact ⟨_, rfl, rfl, fun _ => h3⟩
      · go_enter Try.func19, Try.ntmps19
        go_wp2
        go_ret
        exact ⟨_, rfl, rfl, fun h => by cases h⟩
    · go_enter Try.func19, Try.ntmps19
      go_wp2
      go_ret
      exact ⟨_, rfl, rfl, fun h => by cases h⟩
  · go_enter Try.func19, Try.ntmps19
    go_wp2
    go_ret
    exact ⟨_, rfl, rfl, fun h => by cases h⟩
end Go.Proofs.Qxb6605274a
