import Derived.Test.Qxb6605238aLaw4
import Derived.Test.Qxb6605238aLift
namespace Go.Proofs.Qxb6605238a
open Go.ChangeShapes Go.WideShapes Go.ChangeAt Go.RowKit Go.Deep
set_option linter.unusedVariables false
set_option linter.unusedSimpArgs false

theorem readable4 : ∀ t ∈ [24, 34], Try.prog.readableRec t = true ∧ t < Try.prog.types.size := by
  intro t ht
  simp only [List.mem_cons, List.not_mem_nil, or_false] at ht
  rcases ht with rfl | rfl
  · exact ⟨by kernel_rfl, of_decide_eq_true (by kernel_rfl)⟩
  · exact ⟨by kernel_rfl, of_decide_eq_true (by kernel_rfl)⟩

set_option maxRecDepth 100000 in
theorem lifted4 (os : Os) (started : os.Started) (H : Type) (enc : TypeId × Value → H) :
    ReturnsInHanded {} Try.checked os 4 .any (Rows.fnFirstUnreachedByBreadthSpec.pre6 enc Try.prog Try.f4 Rows.fnFirstUnreachedByBreadthRow.domain false) (Rows.fnFirstUnreachedByBreadthSpec.post enc Try.prog Try.f4 false true false false) := by
  refine returnsInHanded_of_change (C := Try.checked) ownTry started (by kernel_rfl) Try.func4
    (ChangeSpec.witness6 (enc := enc) (C := Try.checked) false ⟨#[], #[.slice none 0 0, .slice none 0 0], []⟩ 8 (by kernel_rfl) (by kernel_rfl) (by kernel_rfl) (by kernel_rfl)) ?_
  intro W base args ds gs before hval0 hW hcnd _
  have hval : ∀ (j : Nat) t v, Try.f4.params[j]? = some t → args[j]? = some v → Value.okWide Try.prog W .any base t v := hval0
  have hW' := hW
  obtain ⟨p, q, hA0, hV, rfl, hfz, hnd⟩ := hW
  have hA : DataW.TrodAll enc Try.prog W 0 (fun _ => true) true Try.f4.params.toList args.toList ds p := hA0
  rw [Try.params4] at hA hval
  have hAk := hA
  obtain ⟨v0, vs0, d0, ds0, p0, q0, hargs, rfl, rfl, h0, r0⟩ := trodAll_cons hA
  obtain ⟨v1, vs1, d1, ds1, p1, q1, rfl, rfl, rfl, h1, r1⟩ := trodAll_cons r0
  obtain ⟨rfl, rfl, rfl⟩ := trodAll_nil r1
  obtain rfl : args = #[v0, v1] := by cases args; simp_all
  obtain ⟨rfl, rfl⟩ := trodVars_none hV
  obtain ⟨_, f0⟩ := one_cell (okWide_slice Try.underlying24 (hval 0 24 v0 rfl rfl)) h0
  obtain ⟨_, f1⟩ := one_cell (okWide_slice Try.underlying34 (hval 1 34 v1 rfl rfl)) h1
  obtain ⟨A1, L, c1, z, rfl, hz, hzn⟩ := open_ints1 f0
  obtain ⟨A2, xs, c2, rfl, hx, hxn⟩ := open_arcs1 f1
  clear hA0 hval0
  refine (law4 A1 A2 c1 c2 L z xs W hz hx hxn).mono fun e W' ⟨he, hb⟩ => ?_
  subst he
  refine ⟨_, rfl, _, _, _, [], _, [], hW', (trodAll_cons_mk (shut_bool Try.underlying4 _) trodAll_mk0), below_trodAll laidTry hb _ readable4 _ _ _ hAk (fun x hx => by simpa using hW'.lt x (by simpa using hx)), rfl, hb.frame _, fun h => by cases h⟩

theorem over4 : Rows.fnFirstUnreachedByBreadthRow.holds Try.pinned (OpenSpec.ofChange Rows.fnFirstUnreachedByBreadthSpec) :=
  OpenClaim.holds_of_wide 4 Try.f4 rfl rfl rfl rfl rfl rfl rfl ⟨rfl, rfl, rfl, rfl, rfl⟩ rfl rfl rfl rfl rfl (by kernel_rfl) Try.func4 (by kernel_rfl)
    (of_decide_eq_true (by kernel_rfl)) (by unfold Func.isWrapper; first | (rw [if_pos (by decide +kernel)]; kernel_rfl) | (rw [if_neg (by decide +kernel)]; exact ⟨rfl, rfl⟩))
    (fun os started H enc _ => lifted4 os started H enc)

theorem breadth_proved : Rows.FnFirstUnreachedByBreadthSaid := over4
#print axioms breadth_proved
end Go.Proofs.Qxb6605238a
