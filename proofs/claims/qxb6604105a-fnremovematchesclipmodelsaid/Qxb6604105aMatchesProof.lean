import Derived.Test.Qxb6604105aLaw3
import Derived.Test.Qxb6604105aLift
namespace Go.Proofs.Qxb6604105a
open Go.ChangeShapes Go.WideShapes Go.ChangeAt Go.RowKit Go.Deep
set_option linter.unusedVariables false
set_option linter.unusedSimpArgs false

theorem readable3 : ∀ t ∈ [22, 3, 3, 3], Try.prog.readableRec t = true ∧ t < Try.prog.types.size := by
  intro t ht
  simp only [List.mem_cons, List.not_mem_nil, or_false] at ht
  rcases ht with rfl | rfl | rfl | rfl
  · exact ⟨by kernel_rfl, of_decide_eq_true (by kernel_rfl)⟩
  · exact ⟨by kernel_rfl, of_decide_eq_true (by kernel_rfl)⟩
  · exact ⟨by kernel_rfl, of_decide_eq_true (by kernel_rfl)⟩
  · exact ⟨by kernel_rfl, of_decide_eq_true (by kernel_rfl)⟩

set_option maxRecDepth 100000 in
theorem lifted3 (os : Os) (started : os.Started) (H : Type) (enc : TypeId × Value → H) :
    ReturnsInHanded {} Try.checked os 3 .any (Rows.fnRemoveMatchesClipModelSpec.pre6 enc Try.prog Try.f3 Rows.fnRemoveMatchesClipModelRow.domain false) (Rows.fnRemoveMatchesClipModelSpec.post enc Try.prog Try.f3 false true false false) := by
  refine returnsInHanded_of_change (C := Try.checked) ownTry started (by kernel_rfl) Try.func3
    (ChangeSpec.witness6 (enc := enc) (C := Try.checked) false ⟨#[], #[.slice none 0 0, .int .i64 0, .int .i64 0, .int .i64 0], []⟩ 8 (by kernel_rfl) (by kernel_rfl) (by kernel_rfl) (by kernel_rfl)) ?_
  intro W base args ds gs before hval0 hW hcnd _
  have hval : ∀ (j : Nat) t v, Try.f3.params[j]? = some t → args[j]? = some v → Value.okWide Try.prog W .any base t v := hval0
  have hW' := hW
  obtain ⟨p, q, hA0, hV, rfl, hfz, hnd⟩ := hW
  have hA : DataW.TrodAll enc Try.prog W 0 (fun _ => true) true Try.f3.params.toList args.toList ds p := hA0
  rw [Try.params3] at hA hval
  have hAk := hA
  obtain ⟨v0, v1, v2, v3, d0, d1, d2, d3, p0, p1, p2, p3, rfl, rfl, rfl, h0, h1, h2, h3⟩ := trodAll_four hA
  obtain ⟨rfl, rfl⟩ := trodVars_none hV
  obtain ⟨a1, rfl, rfl, rfl, w1⟩ := open_int Try.underlying3 (hval 1 3 v1 rfl rfl) h1
  obtain ⟨a2, rfl, rfl, rfl, w2⟩ := open_int Try.underlying3 (hval 2 3 v2 rfl rfl) h2
  obtain ⟨a3, rfl, rfl, rfl, w3⟩ := open_int Try.underlying3 (hval 3 3 v3 rfl rfl) h3
  obtain ⟨A, n, cap, R, IA, C, rfl, hR⟩ := open_rng (okWide_slice Try.underlying22 (hval 0 22 v0 rfl rfl)) h0
  clear hA0 hval0
  refine (law3 A n cap a1 a2 a3 R IA C W hR).mono fun e W' ⟨he, hb⟩ => ?_
  subst he
  refine ⟨_, rfl, _, _, _, [], _, [], hW', (trodAll_cons_mk (shut_bool Try.underlying4 _) trodAll_mk0), below_trodAll laidTry hb _ readable3 _ _ _ hAk (fun x hx => by simpa using hW'.lt x (by simpa using hx)), rfl, hb.frame _, fun h => by cases h⟩

theorem over3 : Rows.fnRemoveMatchesClipModelRow.holds Try.pinned (OpenSpec.ofChange Rows.fnRemoveMatchesClipModelSpec) :=
  OpenClaim.holds_of_wide 3 Try.f3 rfl rfl rfl rfl rfl rfl rfl ⟨rfl, rfl, rfl, rfl, rfl⟩ rfl rfl rfl rfl rfl (by kernel_rfl) Try.func3 (by kernel_rfl)
    (of_decide_eq_true (by kernel_rfl)) (by unfold Func.isWrapper; first | (rw [if_pos (by decide +kernel)]; kernel_rfl) | (rw [if_neg (by decide +kernel)]; exact ⟨rfl, rfl⟩))
    (fun os started H enc _ => lifted3 os started H enc)

theorem matches_proved : Rows.FnRemoveMatchesClipModelSaid := over3
#print axioms matches_proved
end Go.Proofs.Qxb6604105a
