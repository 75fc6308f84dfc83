import Derived.Test.Qxb6605238aSem
namespace Go.Proofs.Qxb6605238a
open Go.RowKit Go.Deep
set_option linter.unusedVariables false
set_option linter.unusedSimpArgs false

variable {adj : Nat → List Nat}

theorem Nb.getN {w : World} {B G n : Nat} (h : Nb w B G n adj) {v : Nat} (hv : v < n) : ∃ A c, w.cell? ⟨G, v, none⟩ = some (.slice A (adj v).length c) ∧ ∀ i (hi : i < (adj v).length), ∃ b off, A = some ⟨b, off, none⟩ ∧ w.cell? ⟨b, off + i, none⟩ = some (.int .i64 ((adj v)[i] : Int)) := h.get hv

set_option maxRecDepth 100000 in
set_option maxHeartbeats 1600000 in
theorem openCount_any {B G n I : Nat} {tk : Nat → Bool} (w : World) (hn : n ≤ 4096) (hN : Nb w B G n adj) (hI : w.rowIs I 4 n (fun i => .bool (tk i))) (hr : ∀ v, v < n → ∀ x ∈ adj v, x < n) (hd : ∀ x, x < n → (adj x).length ≤ 65536) :
    Calls Try.prog 18 #[.slice (some ⟨G, 0, none⟩) n n, .slice (some ⟨I, 0, none⟩) n n] w fun e w' => (∃ c : Nat, e = .returned (.int .i64 c) ∧ c ≤ n) ∧ w = w' := by
  have HR := hide hr
  have HD := hide hd
  clear hr hd
  go_enter Try.func18, Try.ntmps18
  go_wp2
  go_loopg [5, 6] n (fun g c i wr => w = wr ∧ ∃ k c0 : Nat, k ≤ n ∧ g = n - k ∧ i = .int .i64 k ∧ c = .int .i64 c0 ∧ c0 ≤ k)
  case atStart => exact ⟨rfl, 0, 0, Nat.zero_le _, rfl, rfl, rfl, Nat.zero_le _⟩
  case round =>
    obtain ⟨rfl, k, c0, hk, rfl, rfl, rfl, hc0⟩ := hrel
    by_cases hlt : k < n
    · have t0 := hI.cell hlt
      cases htk : tk k
      · rw [htk] at t0
        clear htk
        go_wp2
        go_roundg (n - (k + 1))
        case measure => omega
        case rel => exact ⟨rfl, k + 1, c0, by omega, rfl, by go_num, rfl, by omega⟩
      · rw [htk] at t0
        clear htk
        obtain ⟨A, c, g0, hA⟩ := hN.getN hlt
        have HA := hide hA
        clear hA
        have hdk := HD.out k hlt
        go_wp2
        clear t0 g0
        go_loopg [5, 25] (adj k).length (fun g cc i wr => w = wr ∧ cc = .int .i64 c0 ∧ ∃ j : Nat, j ≤ (adj k).length ∧ g = (adj k).length - j ∧ i = .int .i64 j)
        case atStart => exact ⟨rfl, rfl, 0, Nat.zero_le _, rfl, rfl⟩
        case round =>
          obtain ⟨rfl, rfl, j, hj, rfl, rfl⟩ := hrel
          by_cases hjl : j < (adj k).length
          · obtain ⟨gb, off, rfl, hc1⟩ := HA.out j hjl
            obtain ⟨x, hx⟩ : ∃ x, (adj k)[j] = x := ⟨_, rfl⟩
            have hxn : x < n := by rw [← hx]; exact HR.out k hlt _ (List.getElem_mem hjl)
            rw [hx] at hc1
            clear hx
            have t1 := hI.cell hxn
            cases htx : tk x
            · rw [htx] at t1
              clear htx
              go_wp2
              go_roundg (n - (k + 1))
              case measure => omega
              case rel => exact ⟨rfl, k + 1, c0 + 1, by omega, rfl, by go_num, by go_num, by omega⟩
            · rw [htx] at t1
              clear htx
              go_wp2
              go_roundg ((adj k).length - (j + 1))
              case measure => omega
              case rel => exact ⟨rfl, rfl, j + 1, by omega, rfl, by go_num⟩
          · go_wp2
            go_roundg (n - (k + 1))
            case measure => omega
            case rel => exact ⟨rfl, k + 1, c0, by omega, rfl, by go_num, rfl, by omega⟩
    · go_wp2
      go_ret
      exact ⟨⟨c0, rfl, by omega⟩, rfl⟩
end Go.Proofs.Qxb6605238a
