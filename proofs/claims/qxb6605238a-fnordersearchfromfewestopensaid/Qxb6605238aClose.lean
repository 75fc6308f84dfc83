import Derived.Test.Qxb6605238aOs
namespace Go.Proofs.Qxb6605238a
open Go.RowKit Go.Deep
set_option linter.unusedVariables false
set_option linter.unusedSimpArgs false

/-- One more at the vertex o. -/
def inc (cl : Nat → Int) (o : Option Nat) : Nat → Int := fun u => cl u + if o = some u then 1 else 0

variable {y : Lay} {tk : Nat → Bool} {rs cl : Nat → Int} {is : Nat → Bool} {nv : Value} {NL : List Nat} {wk : Int} {adj : Nat → List Nat}

theorem OS.congr {wr : World} {tk' : Nat → Bool} {rs' cl' : Nat → Int} {is' : Nat → Bool} (h : OS y wr tk rs cl is nv NL wk) (h1 : ∀ i, i < y.nT → tk i = tk' i) (h2 : ∀ i, i < y.nR → rs i = rs' i) (h3 : ∀ i, i < y.nC → cl i = cl' i) (h4 : ∀ i, i < y.nI → is i = is' i) : OS y wr tk' rs' cl' is' nv NL wk :=
  ⟨h.str, h.rT.congr fun i hi => by rw [h1 i hi], h.rR.congr fun i hi => by rw [h2 i hi], h.rC.congr fun i hi => by rw [h3 i hi], h.rI.congr fun i hi => by rw [h4 i hi], h.own, h.far⟩

theorem OS.s0 {wr : World} (h : OS y wr tk rs cl is nv NL wk) : wr.cell? ⟨y.b, 0, none⟩ = some (.slice (some ⟨y.G, 0, none⟩) y.n y.n) := h.str.cell (i := 0) (by decide)
theorem OS.s1 {wr : World} (h : OS y wr tk rs cl is nv NL wk) : wr.cell? ⟨y.b, 1, none⟩ = some (.slice (some ⟨y.T, 0, none⟩) y.nT y.nT) := h.str.cell (i := 1) (by decide)
theorem OS.s2 {wr : World} (h : OS y wr tk rs cl is nv NL wk) : wr.cell? ⟨y.b, 2, none⟩ = some (.slice (some ⟨y.R, 0, none⟩) y.nR y.nR) := h.str.cell (i := 2) (by decide)
theorem OS.s3 {wr : World} (h : OS y wr tk rs cl is nv NL wk) : wr.cell? ⟨y.b, 3, none⟩ = some (.slice (some ⟨y.C, 0, none⟩) y.nC y.nC) := h.str.cell (i := 3) (by decide)
theorem OS.s4 {wr : World} (h : OS y wr tk rs cl is nv NL wk) : wr.cell? ⟨y.b, 4, none⟩ = some nv := h.str.cell (i := 4) (by decide)
theorem OS.s5 {wr : World} (h : OS y wr tk rs cl is nv NL wk) : wr.cell? ⟨y.b, 5, none⟩ = some (.slice (some ⟨y.I, 0, none⟩) y.nI y.nI) := h.str.cell (i := 5) (by decide)
theorem OS.s6 {wr : World} (h : OS y wr tk rs cl is nv NL wk) : wr.cell? ⟨y.b, 6, none⟩ = some (.int .i64 wk) := h.str.cell (i := 6) (by decide)

theorem find_skip {p : Nat → Bool} {l : List Nat} {k : Nat} (hk : k < l.length) (h : ∀ j, (hj : j < l.length) → j < k → p l[j] = false) (hp : p l[k] = true) : l.find? p = some l[k] := by
  rw [List.find?_eq_some_iff_append]
  refine ⟨hp, l.take k, l.drop (k + 1), ?_, fun a ha => ?_⟩
  · rw [← List.drop_eq_getElem_cons hk, List.take_append_drop]
  · obtain ⟨j, hj, rfl⟩ := List.mem_iff_getElem.1 ha
    rw [List.length_take] at hj
    rw [List.getElem_take, h j (by omega) (by omega)]
    rfl
theorem find_none {p : Nat → Bool} {l : List Nat} (h : ∀ j, (hj : j < l.length) → p l[j] = false) : l.find? p = none := by
  rw [List.find?_eq_none]
  intro x hx
  obtain ⟨j, hj, rfl⟩ := List.mem_iff_getElem.1 hx
  rw [h j hj]
  decide

set_option maxRecDepth 100000 in
set_option maxHeartbeats 1600000 in
theorem closeWith_any (ok : y.Ok) (v : Nat) (hv : v < y.n) (w : World) (hO : OS y w tk rs cl is nv NL wk) (hN : Nb w y.B y.G y.n adj) (hr : ∀ x ∈ adj v, x < y.n) (hd : (adj v).length ≤ 65536) (hcl : ∀ u, u < y.n → 0 ≤ cl u ∧ cl u ≤ 1000000) :
    Calls Try.prog 22 #[.pointer (some ⟨y.b, 0, none⟩), .int .i64 v] w fun e w' => e = .returned (.tuple #[]) ∧ (∃ wk', OS y w' tk rs (inc cl ((adj v).find? fun x => !tk x)) is nv NL wk') ∧ Frm (Five y) w w' := by
  obtain ⟨A, c, g0, hA⟩ := hN.get hv
  have HR := hide hr
  have HC := hide hcl
  have HA := hide hA
  clear hr hcl hA
  have o6 := ok.h6
  have o8 := ok.h8
  have m1 := ok.m1
  have m3 := ok.m3
  have a0 := hO.s0
  go_enter Try.func22, Try.ntmps22
  go_wp2
  clear a0
  go_loopg [14] (adj v).length (fun g i wr => ∃ k : Nat, k ≤ (adj v).length ∧ g = (adj v).length - k ∧ i = .int .i64 k ∧ (∀ j, (hj : j < (adj v).length) → j < k → (!tk (adj v)[j]) = false) ∧ (∃ wk', OS y wr tk rs cl is nv NL wk') ∧ Frm (Five y) w wr)
  case atStart => exact ⟨0, Nat.zero_le _, rfl, rfl, fun j _ h => absurd h (Nat.not_lt_zero _), ⟨wk, hO⟩, Frm.refl _ _⟩
  case round =>
    obtain ⟨k, hk, rfl, rfl, hall, ⟨wk', hO'⟩, hF⟩ := hrel
    have HALL := hide hall
    clear hall
    by_cases hlt : k < (adj v).length
    · obtain ⟨gb, off, rfl, hc⟩ := HA.out k hlt
      have hc1 := hF.cell hc (by
        have := hN.lt
        obtain ⟨A', c', e1, e2, e3⟩ := hN.at_ v hv
        rw [g0] at e1
        simp only [Option.some.injEq, Value.slice.injEq] at e1
        have hb := e3 ⟨gb, off, none⟩ (by rw [← e1.1])
        unfold Five
        have := ok.h1; have := ok.h2; have := ok.h3; have := ok.h4; have := ok.h5
        show ¬ (gb = _ ∨ gb = _ ∨ gb = _ ∨ gb = _ ∨ gb = _)
        simp only at hb
        omega)
      obtain ⟨u, hu⟩ : ∃ u, (adj v)[k] = u := ⟨_, rfl⟩
      have hun : u < y.n := by rw [← hu]; exact HR.out _ (List.getElem_mem hlt)
      rw [hu] at hc1
      have HU := hide hu
      clear hu hc
      have a6 := hO'.s6
      have f6 := hO'.str.frozen 6
      have hO2 := hO'.work ok (wrap64 (wk' + 1))
      have b1 := hO2.s1
      have b3 := hO2.s3
      have bT := hO2.rT.cell (i := u) (by omega)
      have bC := hO2.rC.cell (i := u) (by omega)
      have fC := hO2.rC.frozen u
      have hc2 := HC.out u hun
      cases htk : tk u
      · have HT := hide htk
        rw [htk] at bT
        clear htk
        go_wp2
        have hO3 := hO2.setC ok u (cl u + 1)
        have hf : (adj v).find? (fun x => !tk x) = some u := by
          rw [← HU.out]
          exact find_skip hlt HALL.out (by rw [HU.out, HT.out]; rfl)
        (try simp only [Exit.inBlock, Exit.then])
        refine bodyPost_ret (results_none rfl _ _ _) rfl ?_
        refine ⟨rfl, ⟨_, hO3.congr (fun _ _ => rfl) (fun _ _ => rfl) (fun i _ => ?_) (fun _ _ => rfl)⟩, (hF.setCell (Or.inl (Or.inl rfl)) _).setCell (Or.inl (by unfold Five; simp)) _⟩
        unfold up inc
        rw [hf]
        by_cases e : i = u
        · subst e; rw [if_pos rfl, if_pos rfl]
        · rw [if_neg e, if_neg (fun e2 => e (by simpa using e2.symm))]; omega
      · have HT := hide htk
        rw [htk] at bT
        clear htk
        go_wp2
        go_roundg ((adj v).length - (k + 1))
        case measure => omega
        case rel =>
          refine ⟨k + 1, by omega, rfl, by go_num, fun j hj hjk => ?_, ⟨_, hO2⟩, hF.setCell (Or.inl (Or.inl rfl)) _⟩
          by_cases e : j = k
          · subst e; rw [HU.out, HT.out]; rfl
          · exact HALL.out j hj (by omega)
    · have hf : (adj v).find? (fun x => !tk x) = none := find_none fun j hj => HALL.out j hj (by omega)
      have HF := hide hf
      clear hf
      go_wp2
      go_end0
      refine ⟨rfl, ⟨wk', hO'.congr (fun _ _ => rfl) (fun _ _ => rfl) (fun i _ => ?_) (fun _ _ => rfl)⟩, hF⟩
      unfold inc
      rw [HF.out]
      simp
end Go.Proofs.Qxb6605238a
