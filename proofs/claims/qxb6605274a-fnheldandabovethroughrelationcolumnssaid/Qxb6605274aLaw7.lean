import Derived.Test.Qxb6605274aIdx
namespace Go.Proofs.Qxb6605274a
open Go.RowKit
set_option linter.unusedVariables false
set_option linter.unusedSimpArgs false

theorem fill_app (m1 m2 m3 a b : List UInt8) : fill m1 m2 m3 (a ++ b) = fill m1 m2 m3 a ++ fill m1 m2 m3 b := by simp [fill]
theorem fill_clean (m1 m2 m3 : List UInt8) : ∀ (c : List UInt8), c.all (fun b => decide (4 ≤ b.toNat)) = true → fill m1 m2 m3 c = c
  | [], _ => rfl
  | b :: c, h => by
    simp only [List.all_cons, Bool.and_eq_true, decide_eq_true_eq] at h
    have ih := fill_clean m1 m2 m3 c h.2
    have e : fill m1 m2 m3 (b :: c) = f1 m1 m2 m3 b ++ fill m1 m2 m3 c := rfl
    have e2 : f1 m1 m2 m3 b = [b] := by unfold f1; rw [if_neg (by omega), if_neg (by omega), if_neg (by omega)]
    rw [e, e2, ih]
    rfl
theorem fill_two (m1 m2 m3 : List UInt8) : fill m1 m2 m3 [2] = m2 := by simp [fill, f1]

theorem fill_rel (walk p : List UInt8) (hw : walk.all (fun b => decide (4 ≤ b.toNat)) = true) : fill [] p [] (lRel walk [2]) = lRel walk p := by
  unfold lRel lOwn lRol lTo
  simp only [fill_app, fill_two, fill_clean [] p [] walk hw, fill_clean [] p [] kOwn1 (by decide +kernel), fill_clean [] p [] kOwn2 (by decide +kernel), fill_clean [] p [] kComma (by decide +kernel), fill_clean [] p [] kRol1 (by decide +kernel),
    fill_clean [] p [] kRol2 (by decide +kernel), fill_clean [] p [] kRol3 (by decide +kernel), fill_clean [] p [] kSel (by decide +kernel), fill_clean [] p [] kTo1 (by decide +kernel), fill_clean [] p [] kTo2 (by decide +kernel), fill_clean [] p [] kTo3 (by decide +kernel)]

theorem mk_encl : mk (lRel kEncl [2]) = [2, 2, 2] := by decide +kernel
theorem mk_above : mk (lRel kAbove [2]) = [2, 2, 2] := by decide +kernel

theorem marks_encl (w : World) : Calls Try.prog 12 #[.string (sRel (B kEncl) (B [2]))] w fun e w' => e = .returned (.string (B [2, 2, 2])) ∧ Below w.heap.size w w' := by
  have h := markers_any (sRel (B kEncl) (B [2])) w (by rw [sRel_size, B_size, B_size]; decide)
  rw [sRel_data, B_data, B_data, mk_encl] at h
  exact h
theorem marks_above (w : World) : Calls Try.prog 12 #[.string (sRel (B kAbove) (B [2]))] w fun e w' => e = .returned (.string (B [2, 2, 2])) ∧ Below w.heap.size w w' := by
  have h := markers_any (sRel (B kAbove) (B [2])) w (by rw [sRel_size, B_size, B_size]; decide)
  rw [sRel_data, B_data, B_data, mk_above] at h
  exact h
theorem fills (walk : List UInt8) (p : ByteArray) (w : World) (hw : walk.all (fun b => decide (4 ≤ b.toNat)) = true) (hl : walk.length ≤ 100) (hp : p.size ≤ 1048576) :
    Calls Try.prog 14 #[.string (sRel (B walk) (B [2])), .string (B []), .string p, .string (B [])] w fun e w' => e = .returned (.string (sRel (B walk) p)) ∧ Below w.heap.size w w' := by
  have h := fill_any (sRel (B walk) (B [2])) (B []) p (B []) w (by rw [sRel_size, B_size, B_size]; simp; omega) (by rw [B_size]; decide) hp (by rw [B_size]; decide)
  rw [sRel_data, B_data, B_data, B_data, fill_rel walk p.data.toList hw] at h
  have e : B (lRel walk p.data.toList) = sRel (B walk) p := by
    rw [← B_of (sRel (B walk) p), sRel_data, B_data]
  rw [e] at h
  exact h

/-- A part of a sum of strings stands where it stands. -/
theorem occ_mid {s sub : ByteArray} {a c : List UInt8} (h : s.data.toList = a ++ sub.data.toList ++ c) : Occ s sub a.length := by
  have hs := congrArg List.length h
  simp only [List.length_append, ← sz] at hs
  refine ⟨by omega, fun j h1 h2 => ?_⟩
  have e : s.data.toList[a.length + j]? = sub.data.toList[j]? := by
    rw [h, List.append_assoc, List.getElem?_append_right (by omega), Nat.add_sub_cancel_left, List.getElem?_append_left (by rw [← sz]; exact h2)]
  rw [List.getElem?_eq_getElem (by rw [← sz]; exact h1), List.getElem?_eq_getElem (by rw [← sz]; exact h2)] at e
  have e' : s.data[a.length + j] = sub.data[j] := by simpa using e
  exact e'

theorem occ_e (id p : ByteArray) : Occ (sHeld id p) (sRel (B kEncl) p) kHeld1.length :=
  occ_mid (c := kHeld2 ++ id.data.toList ++ kHeld3 ++ lRel kAbove p.data.toList ++ kHeld4) (by rw [sHeld_data, sRel_data, B_data]; simp [lHeld])
theorem occ_id (id p : ByteArray) : Occ (sHeld id p) id (kHeld1.length + (sRel (B kEncl) p).size + kHeld2.length) := by
  have := occ_mid (s := sHeld id p) (sub := id) (a := kHeld1 ++ lRel kEncl p.data.toList ++ kHeld2) (c := kHeld3 ++ lRel kAbove p.data.toList ++ kHeld4) (by rw [sHeld_data]; simp [lHeld])
  rw [List.length_append, List.length_append] at this
  rwa [sz (sRel (B kEncl) p), sRel_data, B_data]
theorem occ_a (id p : ByteArray) : Occ (sHeld id p) (sRel (B kAbove) p) (kHeld1.length + (sRel (B kEncl) p).size + kHeld2.length + id.size + kHeld3.length) := by
  have := occ_mid (s := sHeld id p) (sub := sRel (B kAbove) p) (a := kHeld1 ++ lRel kEncl p.data.toList ++ kHeld2 ++ id.data.toList ++ kHeld3) (c := kHeld4) (by rw [sHeld_data, sRel_data, B_data]; simp [lHeld])
  rw [List.length_append, List.length_append, List.length_append, List.length_append] at this
  rwa [sz (sRel (B kEncl) p), sRel_data, B_data, sz id]

theorem index_at (s sub : ByteArray) (F : Int) (f p : Nat) (hF : F = (f : Int)) (w : World) (hs : s.size ≤ 100000000) (hf : f ≤ p) (ho : Occ s sub p) :
    Calls Try.prog 16 #[.string s, .string sub, .int .i64 F] w fun e w' => ∃ i : Nat, e = .returned (.int .i64 i) ∧ f ≤ i ∧ i ≤ p ∧ ∃ m, w' = w.drewN m := by
  subst hF
  exact index_any s sub f p w hs hf ho

set_option maxRecDepth 100000 in
set_option maxHeartbeats 1600000 in
theorem law7 (id p : ByteArray) (w : World) (hi : id.size ≤ maxLen) (hp : p.size ≤ maxLen) :
    Calls Try.prog 7 #[.string id, .string p] w fun e w' => e = .returned (.bool true) ∧ Below w.heap.size w w' := by
  go_enter Try.func7, Try.ntmps7
  go_wp2_with fail
  refine (bytes19_any id p w hi hp).mono ?_
  rintro e w' ⟨t, rfl, hw, hb⟩
  rw [hw]
  clear hw w'
  cases t
  case false =>
    go_wp2_with fail
    go_ret
    exact ⟨rfl, Below.refl _ _⟩
  have hsum := hb rfl
  clear hb hi hp
  have hi : id.size ≤ 1048576 := by omega
  have hp : p.size ≤ 1048576 := by omega
  have hd1 : decide ((1048576 : Int) < (id.size : Int)) = false := by simp; omega
  go_wp2_with fail
  refine (held18_any (B []) (B []) _ (by rw [B_size]; decide) (by rw [B_size]; decide)).mono ?_
  rintro e w' ⟨rfl, hw⟩
  rw [hw]
  clear hw w'
  have hb0 : (sHeld (B []) (B [])).size = 632 := by rw [sHeld_size, B_size]; rfl
  go_wp2_with fail
  refine (held18_any id p _ hp hi).mono ?_
  rintro e w' ⟨rfl, hw⟩
  rw [hw]
  clear hw w' hb0
  have hr : (sHeld id p).size = id.size + 6 * p.size + 632 := sHeld_size id p
  have HR := hide hr
  have hrl : (sHeld id p).size ≤ 100000000 := by omega
  have O1 := hide (occ_e id p)
  have O2 := hide (occ_id id p)
  have O3 := hide (occ_a id p)
  have hes := sRel_size (B kEncl) p
  rw [B_size] at hes
  have hes2 : (sRel (B kEncl) p).size ≤ 10000000 := by rw [hes]; simp [kEncl]; omega
  have hq : (((sHeld id p).size : Int) != 632 + (id.size : Int) + 6 * (p.size : Int)) = false := by simp; omega
  clear hr hes
  generalize sHeld id p = r at *
  go_wp2_with fail
  refine (rel20_any (B kEncl) (B [2]) _ (by rw [B_size]; decide) (by rw [B_size]; decide)).mono ?_
  rintro e w' ⟨rfl, hw⟩
  rw [hw]
  clear hw w'
  go_wp2_with fail
  refine (rel20_any (B kAbove) (B [2]) _ (by rw [B_size]; decide) (by rw [B_size]; decide)).mono ?_
  rintro e w' ⟨rfl, hw⟩
  rw [hw]
  clear hw w' hq
  go_wp2_with fail
  refine (marks_encl _).mono ?_
  rintro e w1 ⟨rfl, hb1⟩
  have hm : (B [2, 2, 2]).toList = [2, 2, 2] := by unfold B; exact ByteArray.toList_mk _
  go_wp2_with fail
  refine (marks_above _).mono ?_
  rintro e w2 ⟨rfl, hb2⟩
  go_wp2_with fail
  refine (rel20_any (B kEncl) p _ hp (by rw [B_size]; decide)).mono ?_
  rintro e w' ⟨rfl, hw⟩
  rw [hw]
  clear hw w'
  go_wp2_with fail
  refine (rel20_any (B kAbove) p _ hp (by rw [B_size]; decide)).mono ?_
  rintro e w' ⟨rfl, hw⟩
  rw [hw]
  clear hw w' hm
  go_wp2_with fail
  refine (fills kEncl p _ (by decide +kernel) (by decide) hp).mono ?_
  rintro e w3 ⟨rfl, hb3⟩
  go_wp2_with fail
  refine (fills kAbove p _ (by decide +kernel) (by decide) hp).mono ?_
  rintro e w4 ⟨rfl, hb4⟩
  have hB4 : Below w.heap.size w w4 := by
    have z2 := hb1.trans (hb2.mono hb1.size)
    have z3 := z2.trans (hb3.mono z2.size)
    exact z3.trans (hb4.mono z3.size)
  clear hb1 hb2 hb3 hb4
  have hk1 : kHeld1.length = 33 := rfl
  have hk2 : kHeld2.length ≤ 200 := by decide
  have hk3 : kHeld3.length ≤ 200 := by decide
  rw [hk1] at O1 O2 O3
  clear hk1
  generalize kHeld2.length = L2 at *
  generalize kHeld3.length = L3 at *
  generalize sRel (B kEncl) p = se at *
  generalize sRel (B kAbove) p = sa at *
  go_wp2_with fail
  refine (index_at r se 0 0 33 rfl _ hrl (by omega) O1.out).mono ?_
  rintro e w5 ⟨i, rfl, hi1, hi2, m5, hw5⟩
  rw [hw5]
  clear hw5 w5
  go_wp2_with fail
  refine (index_at r id _ (i + se.size) _ (by omega) _ hrl (by omega) O2.out).mono ?_
  rintro e w6 ⟨j, rfl, hj1, hj2, m6, hw6⟩
  rw [hw6]
  clear hw6 w6
  go_wp2_with fail
  refine (index_at r sa _ (j + id.size) _ (by omega) _ hrl (by omega) O3.out).mono ?_
  rintro e w7 ⟨k, rfl, hk1, hk2', m7, hw7⟩
  rw [hw7]
  clear hw7 w7
  go_wp2_with fail
  go_ret
  exact ⟨by simp, below_drewN hB4 _⟩
end Go.Proofs.Qxb6605274a
