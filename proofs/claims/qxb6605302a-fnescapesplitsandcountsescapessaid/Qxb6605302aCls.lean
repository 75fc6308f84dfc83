import Derived.Test.Qxb6605302aEsc
namespace Go.Proofs.Qxb6605302a
open Go.RowKit
set_option linter.unusedVariables false
set_option linter.unusedSimpArgs false

set_option maxHeartbeats 2000000 in
theorem unres_any (n : Nat) (h : n < 256) (w : World) : Calls Try.prog 9 #[.int .u8 (n : Int)] w fun e w' => e = .returned (.bool (isU n)) ∧ w' = w := by
  rcases cls n h with ⟨h1, h2⟩ | ⟨h1, h2⟩ | ⟨h1, h2⟩ | ⟨h1, h2⟩ | ⟨h1, h2⟩ | ⟨h1, h2⟩ | ⟨h1, h2⟩ | ⟨h1, h2⟩ | ⟨h1, h2⟩ | ⟨h1, h2⟩ | ⟨h1, h2⟩ | ⟨h1, h2⟩ | ⟨h1, h2⟩ | ⟨h1, h2⟩
  all_goals
    first | (have d1 : decide ((65 : Int) ≤ (n : Int)) = true := by simp; omega) | (have d1 : decide ((65 : Int) ≤ (n : Int)) = false := by simp; omega)
    first | (have d2 : decide ((n : Int) ≤ 90) = true := by simp; omega) | (have d2 : decide ((n : Int) ≤ 90) = false := by simp; omega)
    first | (have d3 : decide ((97 : Int) ≤ (n : Int)) = true := by simp; omega) | (have d3 : decide ((97 : Int) ≤ (n : Int)) = false := by simp; omega)
    first | (have d4 : decide ((n : Int) ≤ 122) = true := by simp; omega) | (have d4 : decide ((n : Int) ≤ 122) = false := by simp; omega)
    first | (have d5 : decide ((48 : Int) ≤ (n : Int)) = true := by simp; omega) | (have d5 : decide ((48 : Int) ≤ (n : Int)) = false := by simp; omega)
    first | (have d6 : decide ((n : Int) ≤ 57) = true := by simp; omega) | (have d6 : decide ((n : Int) ≤ 57) = false := by simp; omega)
    first | (have e1 : ((n : Int) == 45) = true := by simp; omega) | (have e1 : ((n : Int) == 45) = false := by simp; omega)
    first | (have e2 : ((n : Int) == 95) = true := by simp; omega) | (have e2 : ((n : Int) == 95) = false := by simp; omega)
    first | (have e3 : ((n : Int) == 46) = true := by simp; omega) | (have e3 : ((n : Int) == 46) = false := by simp; omega)
    first | (have e4 : ((n : Int) == 126) = true := by simp; omega) | (have e4 : ((n : Int) == 126) = false := by simp; omega)
    first | (have hu : isU n = true := by simp [isU]; omega) | (have hu : isU n = false := by simp [isU]; omega)
    rw [hu]
    go_enter Try.func9, Try.ntmps9
    go_wp2
    go_ret
    exact ⟨rfl, rfl⟩
end Go.Proofs.Qxb6605302a
