import Derived.Test.Qxb6605238aRef
namespace Go.Proofs.Qxb6605238a
open Go.RowKit Go.Deep
set_option linter.unusedVariables false
set_option linter.unusedSimpArgs false

/-- A slice of slices of integers, as it came in. -/
def NbZ (w : World) (A : Option Addr) (n : Nat) (zz : Nat → List Int) : Prop :=
  ∀ v, v < n → ∃ b off A' c, A = some ⟨b, off, none⟩ ∧ w.cell? ⟨b, off + v, none⟩ = some (.slice A' (zz v).length c) ∧ Cells w A' (zz v).length (fun i => .int .i64 (iz (zz v) i)) ∧ (A' = none → (zz v).length = 0 ∧ c = 0)

theorem NbZ.below {w w' : World} {A : Option Addr} {n : Nat} {zz : Nat → List Int} (h : NbZ w A n zz) (hb : Below w.heap.size w w') : NbZ w' A n zz := by
  intro v hv
  obtain ⟨b, off, A', c, h1, h2, h3, h4⟩ := h v hv
  exact ⟨b, off, A', c, h1, by rw [hb.cell (cell_lt h2)]; exact h2, h3.below hb, h4⟩

set_option maxHeartbeats 800000 in
theorem contains_any (A : Option Addr) (c : Nat) (zs : List Int) (x : Int) (w : World) (hR : Cells w A zs.length (fun i => .int .i64 (iz zs i))) (hn : zs.length ≤ 1048576) :
    Calls Try.prog 17 #[.slice A zs.length c, .int .i64 x] w fun e w' => e = .returned (.bool (decide (x ∈ zs))) ∧ w = w' := by
  go_enter Try.func17, Try.ntmps17
  go_wp2
  go_loopg [5] zs.length (fun g i wr => w = wr ∧ ∃ k : Nat, k ≤ zs.length ∧ g = zs.length - k ∧ i = .int .i64 k ∧ x ∉ zs.take k)
  case atStart => exact ⟨rfl, 0, Nat.zero_le _, rfl, rfl, by simp⟩
  case round =>
    obtain ⟨rfl, k, hk, rfl, rfl, hno⟩ := hrel
    have HNO := hide hno
    clear hno
    by_cases hlt : k < zs.length
    · obtain ⟨b, off, rfl, h0⟩ := hR k hlt
      have hz : iz zs k = zs[k] := by simp [iz, List.getD, hlt]
      simp only [hz] at h0
      by_cases he : zs[k] = x
      · have HM : Hid (x ∈ zs) := hide (by rw [← he]; exact List.getElem_mem hlt)
        rw [he] at h0
        have q : ((x : Int) == x) = true := by simp
        clear he hz
        go_wp2
        go_ret
        exact ⟨by rw [decide_eq_true HM.out]; rfl, rfl⟩
      · have HE := hide he
        have q : ((zs[k] : Int) == x) = false := by simpa using he
        clear he hz
        go_wp2
        go_roundg (zs.length - (k + 1))
        case measure => omega
        case rel =>
          refine ⟨rfl, k + 1, by omega, rfl, by go_num, ?_⟩
          rw [List.take_succ_eq_append_getElem hlt]
          intro h
          rcases List.mem_append.1 h with h | h
          · exact HNO.out h
          · exact HE.out (List.mem_singleton.1 h).symm
    · have HM : Hid (x ∉ zs) := hide (by have := HNO.out; rwa [List.take_of_length_le (by omega)] at this)
      go_wp2
      go_ret
      exact ⟨by rw [decide_eq_false HM.out]; rfl, rfl⟩
end Go.Proofs.Qxb6605238a
