import Derived.Test.Qxb6605238aLaw3
import Derived.Test.Qxb6605238aLiftN
namespace Go.Proofs.Qxb6605238a
open Go.ChangeShapes Go.WideShapes Go.ChangeAt Go.RowKit Go.Deep
set_option linter.unusedVariables false
set_option linter.unusedSimpArgs false

theorem readable3 : ∀ t ∈ [22, 23, 24, 24, 24, 23, 3, 3, 24], Try.prog.readableRec t = true ∧ t < Try.prog.types.size := by
  intro t ht
  simp only [List.mem_cons, List.not_mem_nil, or_false] at ht
  have r22 : Try.prog.readableRec 22 = true ∧ 22 < Try.prog.types.size := ⟨by kernel_rfl, of_decide_eq_true (by kernel_rfl)⟩
  have r23 : Try.prog.readableRec 23 = true ∧ 23 < Try.prog.types.size := ⟨by kernel_rfl, of_decide_eq_true (by kernel_rfl)⟩
  have r24 : Try.prog.readableRec 24 = true ∧ 24 < Try.prog.types.size := ⟨by kernel_rfl, of_decide_eq_true (by kernel_rfl)⟩
  have r3 : Try.prog.readableRec 3 = true ∧ 3 < Try.prog.types.size := ⟨by kernel_rfl, of_decide_eq_true (by kernel_rfl)⟩
  rcases ht with rfl | rfl | rfl | rfl | rfl | rfl | rfl | rfl | rfl
  · exact r22
  · exact r23
  · exact r24
  · exact r24
  · exact r24
  · exact r23
  · exact r3
  · exact r3
  · exact r24

set_option maxRecDepth 100000 in
theorem lifted3 (os : Os) (started : os.Started) (H : Type) (enc : TypeId × Value → H) :
    ReturnsInHanded {} Try.checked os 3 .any (Rows.fnOrderSearchFromFewestOpenSpec.pre6 enc Try.prog Try.f3 Rows.fnOrderSearchFromFewestOpenRow.domain false) (Rows.fnOrderSearchFromFewestOpenSpec.post enc Try.prog Try.f3 false true false false) := by
  refine returnsInHanded_of_change (C := Try.checked) ownTry started (by kernel_rfl) Try.func3
    (ChangeSpec.witness6 (enc := enc) (C := Try.checked) false ⟨#[], #[.slice none 0 0, .slice none 0 0, .slice none 0 0, .slice none 0 0, .slice none 0 0, .slice none 0 0, .int .i64 0, .int .i64 0, .slice none 0 0], []⟩ 8 (by kernel_rfl) (by kernel_rfl) (by kernel_rfl) (by kernel_rfl)) ?_
  intro W base args ds gs before hval0 hW hcnd _
  have hval : ∀ (j : Nat) t v, Try.f3.params[j]? = some t → args[j]? = some v → Value.okWide Try.prog W .any base t v := hval0
  have hW' := hW
  obtain ⟨p, q, hA0, hV, rfl, hfz, hnd⟩ := hW
  have hA : DataW.TrodAll enc Try.prog W 0 (fun _ => true) true Try.f3.params.toList args.toList ds p := hA0
  rw [Try.params3] at hA hval
  have hAk := hA
  obtain ⟨v0, vs0, d0, ds0, p0, q0, hargs, rfl, rfl, h0, r0⟩ := trodAll_cons hA
  obtain ⟨v1, vs1, d1, ds1, p1, q1, rfl, rfl, rfl, h1, r1⟩ := trodAll_cons r0
  obtain ⟨v2, vs2, d2, ds2, p2, q2, rfl, rfl, rfl, h2, r2⟩ := trodAll_cons r1
  obtain ⟨v3, vs3, d3, ds3, p3, q3, rfl, rfl, rfl, h3, r3⟩ := trodAll_cons r2
  obtain ⟨v4, vs4, d4, ds4, p4, q4, rfl, rfl, rfl, h4, r4⟩ := trodAll_cons r3
  obtain ⟨v5, vs5, d5, ds5, p5, q5, rfl, rfl, rfl, h5, r5⟩ := trodAll_cons r4
  obtain ⟨v6, vs6, d6, ds6, p6, q6, rfl, rfl, rfl, h6, r6⟩ := trodAll_cons r5
  obtain ⟨v7, vs7, d7, ds7, p7, q7, rfl, rfl, rfl, h7, r7⟩ := trodAll_cons r6
  obtain ⟨v8, vs8, d8, ds8, p8, q8, rfl, rfl, rfl, h8, r8⟩ := trodAll_cons r7
  obtain ⟨rfl, rfl, rfl⟩ := trodAll_nil r8
  obtain rfl : args = #[v0, v1, v2, v3, v4, v5, v6, v7, v8] := by cases args; simp_all
  obtain ⟨rfl, rfl⟩ := trodVars_none hV
  obtain ⟨_, f0⟩ := one_cell (okWide_slice Try.underlying22 (hval 0 22 v0 rfl rfl)) h0
  obtain ⟨_, f1⟩ := one_cell (okWide_slice Try.underlying23 (hval 1 23 v1 rfl rfl)) h1
  obtain ⟨_, f2⟩ := one_cell (okWide_slice Try.underlying24 (hval 2 24 v2 rfl rfl)) h2
  obtain ⟨_, f3⟩ := one_cell (okWide_slice Try.underlying24 (hval 3 24 v3 rfl rfl)) h3
  obtain ⟨_, f4⟩ := one_cell (okWide_slice Try.underlying24 (hval 4 24 v4 rfl rfl)) h4
  obtain ⟨_, f5⟩ := one_cell (okWide_slice Try.underlying23 (hval 5 23 v5 rfl rfl)) h5
  obtain ⟨wk, rfl, rfl, rfl, w6⟩ := open_int Try.underlying3 (hval 6 3 v6 rfl rfl) h6
  obtain ⟨st, rfl, rfl, rfl, w7⟩ := open_int Try.underlying3 (hval 7 3 v7 rfl rfl) h7
  obtain ⟨_, f8⟩ := one_cell (okWide_slice Try.underlying24 (hval 8 24 v8 rfl rfl)) h8
  obtain ⟨A0, n0, c0, zz, rfl, z0⟩ := open_nest1 f0
  obtain ⟨A1, n1, c1, t1, rfl, z1, e1⟩ := open_bools1 f1
  obtain ⟨A2, n2, c2, t2, rfl, z2, e2⟩ := open_ints1 f2
  obtain ⟨A3, n3, c3, t3, rfl, z3, e3⟩ := open_ints1 f3
  obtain ⟨A4, n4, c4, t4, rfl, z4, e4⟩ := open_ints1 f4
  obtain ⟨A5, n5, c5, t5, rfl, z5, e5⟩ := open_bools1 f5
  obtain ⟨A8, n8, c8, t8, rfl, z8, e8⟩ := open_ints1 f8
  clear hA0 hval0
  refine (law3 A0 A1 A2 A3 A4 A5 A8 c0 c1 c2 c3 c4 c5 c8 n0 n1 n2 n3 n4 n5 n8 zz t1 t5 t2 t3 t4 t8 wk st W z0 z1 z2 z3 z4 z5 z8 e4 e8).mono fun e W' ⟨he, hb⟩ => ?_
  subst he
  refine ⟨_, rfl, _, _, _, [], _, [], hW', (trodAll_cons_mk (shut_bool Try.underlying4 _) trodAll_mk0), below_trodAll laidTry hb _ readable3 _ _ _ hAk (fun x hx => by simpa using hW'.lt x (by simpa using hx)), rfl, hb.frame _, fun h => by cases h⟩

theorem over3 : Rows.fnOrderSearchFromFewestOpenRow.holds Try.pinned (OpenSpec.ofChange Rows.fnOrderSearchFromFewestOpenSpec) :=
  OpenClaim.holds_of_wide 3 Try.f3 rfl rfl rfl rfl rfl rfl rfl ⟨rfl, rfl, rfl, rfl, rfl⟩ rfl rfl rfl rfl rfl (by kernel_rfl) Try.func3 (by kernel_rfl)
    (of_decide_eq_true (by kernel_rfl)) (by unfold Func.isWrapper; first | (rw [if_pos (by decide +kernel)]; kernel_rfl) | (rw [if_neg (by decide +kernel)]; exact ⟨rfl, rfl⟩))
    (fun os started H enc _ => lifted3 os started H enc)

theorem order_proved : Rows.FnOrderSearchFromFewestOpenSaid := over3
#print axioms order_proved
end Go.Proofs.Qxb6605238a
