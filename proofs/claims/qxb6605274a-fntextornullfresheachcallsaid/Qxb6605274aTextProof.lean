import Derived.Test.Qxb6605274aRows
import Derived.WalkKit
import Derived.ProofKit
import Derived.OpenShut
import Derived.ShutString
import Derived.WalkSpells
import Derived.WalkLawsBesides
import Derived.LaidEqlPtr
import Derived.Carry
import Derived.Deep.Heap
namespace Go.Proofs.Qxb6605274a
open Go.ChangeShapes Go.WideShapes Go.ChangeAt Go.RowKit Go.Deep
open Go.ChangeMaps (open_string shut_string)
set_option linter.unusedVariables false
set_option linter.unusedSimpArgs false

theorem ownTry : ownKnob Try.prog.godebug = none := by kernel_rfl
theorem info9 : (Try.prog.info? 9).map (fun i => i.size) = some 1 := by kernel_rfl

theorem bytes_walk (s : ByteArray) (w : World) (h : s.size ≤ 1048576) : Calls Try.prog 8 #[.string s] w fun e w' => e = .returned (.bool true) ∧ w' = w := by
  go_enter Try.func8, Try.ntmps8
  go_wp2
  go_ret
  exact ⟨rfl, rfl⟩
theorem bytes_walk_no (s : ByteArray) (w : World) (h : ¬ s.size ≤ 1048576) : Calls Try.prog 8 #[.string s] w fun e w' => e = .returned (.bool false) ∧ w' = w := by
  go_enter Try.func8, Try.ntmps8
  go_wp2
  go_ret
  exact ⟨rfl, rfl⟩
theorem null_empty (s : ByteArray) (w : World) (h : s.toList.isEmpty = true) : Calls Try.prog 9 #[.string s] w fun e w' => e = .returned (.pointer none) ∧ w' = w.alloc (.cells #[.string s] 9) := by
  go_enter Try.func9, Try.ntmps9
  go_wp2
  go_ret
  exact ⟨rfl, rfl⟩
theorem null_text (s : ByteArray) (w : World) (h : s.toList.isEmpty = false) : Calls Try.prog 9 #[.string s] w fun e w' => e = .returned (.pointer (some ⟨w.heap.size, 0, none⟩)) ∧ w' = w.alloc (.cells #[.string s] 9) := by
  go_enter Try.func9, Try.ntmps9
  go_wp2
  go_ret
  exact ⟨rfl, rfl⟩

set_option maxRecDepth 100000 in
set_option maxHeartbeats 800000 in
theorem text_walk (s : ByteArray) (w : World) (hs : s.size ≤ maxLen) :
    Calls Try.prog 3 #[.string s] w fun e w' => e = .returned (.bool true) ∧ Below w.heap.size w w' := by
  unfold maxLen at hs
  by_cases h1 : s.size ≤ 1048576
  · by_cases h2 : s.toList.isEmpty = true
    · go_enter Try.func3, Try.ntmps3
      go_wp2_with fail
      refine (bytes_walk s w h1).mono ?_
      rintro e w' ⟨rfl, hw⟩
      rw [hw]
      clear hw w'
      go_wp2_with fail
      refine (null_empty s _ h2).mono ?_
      rintro e w' ⟨rfl, hw⟩
      rw [hw]
      clear hw w'
      go_wp2_with fail
      refine (null_empty s _ h2).mono ?_
      rintro e w' ⟨rfl, hw⟩
      rw [hw]
      clear hw w'
      go_wp2_with fail
      go_ret
      exact ⟨rfl, ((Below.refl _ _).alloc (Nat.le_refl _) _).alloc (by simp) _⟩
    · have h2' : s.toList.isEmpty = false := by simpa using h2
      obtain ⟨j, hj, hjs⟩ := Option.map_eq_some_iff.1 info9
      have hptr := run_eql_ptr_other (P := Try.prog) ((w.alloc (.cells #[.string s] 9)).alloc (.cells #[.string s] 9)) (tp := 23) (te := 9) (a := ⟨w.heap.size, 0, none⟩) (b := ⟨w.heap.size + 1, 0, none⟩) Try.underlying23 hj (by rw [hjs]; decide) (by simp)
        (by rw [blk_alloc_lt _ _ _ (by simp)]; exact blk_alloc_new _ _) (by
          have := blk_alloc_new (w.alloc (.cells #[.string s] 9)) (.cells #[.string s] 9)
          simpa using this)
      clear hj hjs
      go_enter Try.func3, Try.ntmps3
      go_wp2_with fail
      refine (bytes_walk s w h1).mono ?_
      rintro e w' ⟨rfl, hw⟩
      rw [hw]
      clear hw w'
      go_wp2_with fail
      refine (null_text s _ h2').mono ?_
      rintro e w' ⟨rfl, hw⟩
      rw [hw]
      clear hw w'
      go_wp2_with fail
      refine (null_text s _ h2').mono ?_
      rintro e w' ⟨rfl, hw⟩
      rw [hw]
      clear hw w'
      go_wp2_with fail
      go_ret
      exact ⟨rfl, ((Below.refl _ _).alloc (Nat.le_refl _) _).alloc (by simp) _⟩
  · go_enter Try.func3, Try.ntmps3
    go_wp2_with fail
    refine (bytes_walk_no s w h1).mono ?_
    rintro e w' ⟨rfl, hw⟩
    rw [hw]
    clear hw w'
    go_wp2_with fail
    go_ret
    exact ⟨rfl, Below.refl _ _⟩

set_option maxRecDepth 100000 in
theorem lifted3 (os : Os) (started : os.Started) (H : Type) (enc : TypeId × Value → H) :
    ReturnsInHanded {} Try.checked os 3 .any (Rows.fnTextOrNullFreshEachCallSpec.pre6 enc Try.prog Try.f3 Rows.fnTextOrNullFreshEachCallRow.domain false) (Rows.fnTextOrNullFreshEachCallSpec.post enc Try.prog Try.f3 false true false false) := by
  refine returnsInHanded_of_change (C := Try.checked) ownTry started (by kernel_rfl) Try.func3
    (ChangeSpec.witness6 (enc := enc) (C := Try.checked) false ⟨#[], #[.string ByteArray.empty], []⟩ 8 (by kernel_rfl) (by kernel_rfl) (by kernel_rfl) (by kernel_rfl)) ?_
  intro W base args ds gs before hval0 hW hcnd _
  have hval : ∀ (j : Nat) t v, Try.f3.params[j]? = some t → args[j]? = some v → Value.okWide Try.prog W .any base t v := hval0
  have hW' := hW
  obtain ⟨p, q, hA0, hV, rfl, hfz, hnd⟩ := hW
  have hA : DataW.TrodAll enc Try.prog W 0 (fun _ => true) true Try.f3.params.toList args.toList ds p := hA0
  rw [Try.params3] at hA hval
  obtain ⟨v0, vs0, d0, ds0, p0, q0, hargs, rfl, rfl, h0, r0⟩ := trodAll_cons hA
  obtain ⟨rfl, rfl, rfl⟩ := trodAll_nil r0
  obtain rfl : args = #[v0] := by cases args; simp_all
  obtain ⟨rfl, rfl⟩ := trodVars_none hV
  obtain ⟨a0, rfl, rfl, rfl, w0⟩ := open_string Try.underlying9 (hval 0 9 v0 rfl rfl) h0
  clear hA0 hval0
  simp only [List.append_nil] at hW'
  refine (text_walk a0 W w0).mono fun e W' ⟨he, hb⟩ => ?_
  subst he
  exact ⟨_, rfl, _, _, _, [], [], [], hW', (trodAll_cons_mk (shut_bool Try.underlying4 _) trodAll_mk0), (trodAll_cons_mk (shut_string Try.underlying9 w0) trodAll_mk0), rfl, hb.frame _, fun h => by cases h⟩

theorem over3 : Rows.fnTextOrNullFreshEachCallRow.holds Try.pinned (OpenSpec.ofChange Rows.fnTextOrNullFreshEachCallSpec) :=
  OpenClaim.holds_of_wide 3 Try.f3 rfl rfl rfl rfl rfl rfl rfl ⟨rfl, rfl, rfl, rfl, rfl⟩ rfl rfl rfl rfl rfl (by kernel_rfl) Try.func3 (by kernel_rfl)
    (of_decide_eq_true (by kernel_rfl)) (by unfold Func.isWrapper; first | (rw [if_pos (by decide +kernel)]; kernel_rfl) | (rw [if_neg (by decide +kernel)]; exact ⟨rfl, rfl⟩))
    (fun os started H enc _ => lifted3 os started H enc)

theorem text_proved : Rows.FnTextOrNullFreshEachCallSaid := over3
#print axioms text_proved
end Go.Proofs.Qxb6605274a
