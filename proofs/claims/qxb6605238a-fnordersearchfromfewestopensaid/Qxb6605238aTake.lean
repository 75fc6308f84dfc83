import Derived.Test.Qxb6605238aClose
namespace Go.Proofs.Qxb6605238a
open Go.RowKit Go.Deep
set_option linter.unusedVariables false
set_option linter.unusedSimpArgs false

variable {y : Lay} {tk : Nat → Bool} {rs cl : Nat → Int} {is : Nat → Bool} {nv : Value} {NL : List Nat} {wk : Int} {adj : Nat → List Nat}

theorem wpList_appJ {ops : Array Oper} {rest : List Oper} {o : Oper} {a : Act} {Q : Exit → Act → World → Prop} (w : World) (s x : Operand) (p : Int) (out : List Int) (base : Nat)
    (hn : out.length ≤ 1048576) (v : Value) (ad : Addr)
    (hgd : o.guard = none) (ho : o.op = .call { callee := .builtin .append, args := #[s, x], argTypes := #[24, 24] })
    (hs : a.eval s = v) (hx : a.eval x = .slice (some ad) 1 1)
    (hown : OwnI w base v out) (h0 : w.cell? ad = some (.int .i64 p)) (hbase : base ≤ w.heap.size)
    (h : ∀ v' w', OwnI w' base v' (out ++ [p]) → w.grownBy w' v.ownBlock → (v'.ownBlock = v.ownBlock ∨ v'.ownBlock = some w.heap.size) → wpList Try.prog ops Q rest (a.put o.dst v') w') :
    wpList Try.prog ops Q (o :: rest) a w := by
  obtain ⟨i, hi, hzz⟩ := Option.map_eq_some_iff.1 info3
  simp only [Prod.mk.injEq] at hzz
  obtain ⟨hz, hsz, hb⟩ := hzz
  refine wpList_append_own_at w hgd s x 24 ho base 3 i _ 1 8 Try.underlying24 hi hz hsz hb rfl (by decide) v out.length _ hs hown ad 1 1 [.int .i64 p] hx rfl ?_ ?_ ?_ ?_ hbase ?_
  · intro j u hj
    match j, hj with
    | 0, hj => simp at hj; subst hj; simpa [Addr.add] using h0
  · intro u hu
    simp at hu
    subst hu
    rfl
  · unfold maxLen; omega
  · omega
  · intro v' w' h1 h2 h3 h4
    refine h v' w' ?_ h2 h4
    unfold OwnI
    rw [List.length_append, List.map_append]
    exact h1

theorem OS.app {wr w1 : World} {v1 : Value} {u : Nat} (ok : y.Ok) (h : OS y wr tk rs cl is nv NL wk) (hg : wr.grownBy w1 nv.ownBlock) (ho : OwnI w1 y.B v1 (zl NL ++ [(u : Int)])) (hat : v1.ownBlock = nv.ownBlock ∨ v1.ownBlock = some wr.heap.size) :
    OS y (w1.setCell ⟨y.b, 4, none⟩ v1) tk rs cl is v1 (NL ++ [u]) wk := by
  refine h.grown hg h.far v1 (NL ++ [u]) (by unfold zl at *; rw [List.map_append]; exact ho) (fun k hk => ?_) ok
  rcases hat with e | e
  · exact h.far k (by rw [← e]; exact hk)
  · rw [e] at hk
    simp only [Option.some.injEq] at hk
    subst hk
    have := h.str.lt; have := h.rT.lt; have := h.rR.lt; have := h.rC.lt; have := h.rI.lt
    omega

/-- Where 'near' may lie. -/
def NOk (w : World) (nv nv' : Value) : Prop := ∀ g, nv'.ownBlock = some g → nv.ownBlock = some g ∨ w.heap.size ≤ g
def Six (y : Lay) (nv : Value) (k : Nat) : Prop := Five y k ∨ nv.ownBlock = some k

def rsk (adj : Nat → List Nat) (rs : Nat → Int) (v k : Nat) : Nat → Int := fun x => rs x - if x ∈ (adj v).take k then 1 else 0
def isk (adj : Nat → List Nat) (tk is : Nat → Bool) (v k : Nat) : Nat → Bool := fun x => is x || (decide (x ∈ (adj v).take k) && !tk x)
def nlk (adj : Nat → List Nat) (tk is : Nat → Bool) (v k : Nat) : List Nat := ((adj v).take k).filter fun x => !tk x && !is x
def clk (adj : Nat → List Nat) (tk : Nat → Bool) (rs cl : Nat → Int) (v k : Nat) : Nat → Int := fun u =>
  cl u + (if rs v = 1 ∧ (adj v).find? (fun x => !tk x) = some u then 1 else 0) + (((adj v).take k).countP fun w => tk w && decide (rs w = 2) && decide ((adj w).find? (fun x => !tk x) = some u) : Nat)

theorem take_next {l : List Nat} {k : Nat} (hk : k < l.length) : l.take (k + 1) = l.take k ++ [l[k]] := List.take_succ_eq_append_getElem hk
theorem not_take {l : List Nat} {k : Nat} (hl : l.Nodup) (hk : k < l.length) : l[k] ∉ l.take k := by
  have := List.Nodup.sublist (List.take_sublist (k + 1) l) hl
  rw [take_next hk, List.nodup_append] at this
  intro h
  exact this.2.2 _ h _ (by simp) rfl

theorem rsk_next {v k u : Nat} (hl : (adj v).Nodup) (hk : k < (adj v).length) (hu : (adj v)[k] = u) : ∀ i, up (rsk adj rs v k) u (rs u - 1) i = rsk adj rs v (k + 1) i := by
  intro i
  unfold up rsk
  rw [take_next hk, hu]
  by_cases e : i = u
  · subst e; rw [if_pos rfl, if_pos (by simp)]
  · rw [if_neg e]
    simp [e]
theorem rsk_at {v k u : Nat} (hl : (adj v).Nodup) (hk : k < (adj v).length) (hu : (adj v)[k] = u) : rsk adj rs v k u = rs u := by
  unfold rsk
  rw [if_neg (by rw [← hu]; exact not_take hl hk)]
  omega
theorem isk_at {v k u : Nat} (hl : (adj v).Nodup) (hk : k < (adj v).length) (hu : (adj v)[k] = u) : isk adj tk is v k u = is u := by
  unfold isk
  have : u ∉ (adj v).take k := by rw [← hu]; exact not_take hl hk
  simp [this]
theorem isk_next {v k u : Nat} (hk : k < (adj v).length) (hu : (adj v)[k] = u) (i : Nat) : isk adj tk is v (k + 1) i = (isk adj tk is v k i || (decide (i = u) && !tk i)) := by
  unfold isk
  rw [take_next hk, hu]
  simp only [List.mem_append, List.mem_singleton]
  by_cases h2 : i = u
  · subst h2
    cases tk i <;> cases is i <;> simp
  · simp [h2]
theorem nlk_next {v k u : Nat} (hk : k < (adj v).length) (hu : (adj v)[k] = u) : nlk adj tk is v (k + 1) = nlk adj tk is v k ++ if (!tk u && !is u) = true then [u] else [] := by
  unfold nlk
  rw [take_next hk, hu, List.filter_append]
  congr 1
  by_cases h : (!tk u && !is u) = true <;> simp [List.filter_cons, h]
theorem clk_next {v k u : Nat} (hk : k < (adj v).length) (hu : (adj v)[k] = u) (i : Nat) : clk adj tk rs cl v (k + 1) i = clk adj tk rs cl v k i + if (tk u && decide (rs u = 2) && decide ((adj u).find? (fun x => !tk x) = some i)) = true then 1 else 0 := by
  unfold clk
  rw [take_next hk, hu, List.countP_append, List.countP_cons, List.countP_nil]
  generalize (if rs v = 1 ∧ (adj v).find? (fun x => !tk x) = some i then (1 : Int) else 0) = z
  by_cases hp : (tk u && decide (rs u = 2) && decide ((adj u).find? (fun x => !tk x) = some i)) = true
  · rw [if_pos hp, if_pos hp]; omega
  · rw [if_neg hp, if_neg hp]; omega
theorem clk_le {v k : Nat} (i : Nat) (hk : k ≤ (adj v).length) : cl i ≤ clk adj tk rs cl v k i ∧ clk adj tk rs cl v k i ≤ cl i + 1 + k := by
  unfold clk
  have h1 : ((adj v).take k).countP (fun w => tk w && decide (rs w = 2) && decide ((adj w).find? (fun x => !tk x) = some i)) ≤ ((adj v).take k).length := List.countP_le_length
  have h2 := List.length_take_le k (adj v)
  split <;> omega
theorem nlk_le {v k : Nat} : (nlk adj tk is v k).length ≤ k := Nat.le_trans (List.length_filter_le _ _) (List.length_take_le _ _)

theorem Nb.getF {M : Nat → Prop} {w : World} {B G n : Nat} (h : Nb w B G n adj) (hm : ∀ k, k < B → ¬ M k) {v : Nat} (hv : v < n) : ∃ A c, ∀ wr, Frm M w wr → (wr.cell? ⟨G, v, none⟩ = some (.slice A (adj v).length c) ∧ ∀ i (hi : i < (adj v).length), ∃ b off, A = some ⟨b, off, none⟩ ∧ wr.cell? ⟨b, off + i, none⟩ = some (.int .i64 ((adj v)[i] : Int))) := by
  obtain ⟨A, c, h1, h2, h3⟩ := h.at_ v hv
  refine ⟨A, c, fun wr hf => ⟨hf.cell h1 (hm _ h.lt), fun i hi => ?_⟩⟩
  obtain ⟨b, off, hA, h4⟩ := h2 i hi
  refine ⟨b, off, hA, hf.cell (a := ⟨b, off + i, none⟩) ?_ (hm b (h3 ⟨b, off, none⟩ hA))⟩
  rw [h4]; simp [List.getD, hi]

set_option maxRecDepth 100000 in
set_option maxHeartbeats 4000000 in
theorem take_any (ok : y.Ok) (G : Gr y.n adj) (v : Nat) (hv : v < y.n) (w : World) (hO : OS y w tk rs cl is nv NL wk) (hN : Nb w y.B y.G y.n adj) (hd : ∀ x, x < y.n → (adj x).length ≤ 65536)
    (hcl : ∀ u, u < y.n → 0 ≤ cl u ∧ cl u ≤ 900000) (hrs : ∀ u, u < y.n → 0 ≤ rs u ∧ rs u ≤ 900000) (hnl : NL.length ≤ 900000) :
    Calls Try.prog 21 #[.pointer (some ⟨y.b, 0, none⟩), .int .i64 v] w fun e w' => e = .returned (.tuple #[]) ∧ (∃ nv' wk', OS y w' (up tk v true) (rsk adj rs v (adj v).length) (clk adj (up tk v true) rs cl v (adj v).length) (isk adj (up tk v true) is v (adj v).length) nv' (NL ++ nlk adj (up tk v true) is v (adj v).length) wk' ∧ NOk w nv nv') ∧ Frm (Six y nv) w w' := by
  have hdv := hd v hv
  have o6 := ok.h6; have o7 := ok.h7; have o8 := ok.h8; have o9 := ok.h9
  have m1 := ok.m1; have m2 := ok.m2; have m3 := ok.m3; have m4 := ok.m4
  have hMB : ∀ k, k < y.B → ¬ Six y nv k := by
    intro k hk h
    rcases h with h | h
    · unfold Five at h
      have := ok.h1; have := ok.h2; have := ok.h3; have := ok.h4; have := ok.h5
      omega
    · have := (World.ownsRow.lt hO.own k h).1
      omega
  have HMB := hide hMB
  have HCL := hide hcl
  have HRS := hide hrs
  have HD := hide hd
  clear hMB hcl hrs hd
  have hF0 : Frm (Six y nv) w (w.setCell ⟨y.T, v, none⟩ (.bool true)) := (Frm.refl _ _).setCell (Or.inl (Or.inl (Or.inr (Or.inl rfl)))) _
  have hO0 := hO.setT ok v
  have hN0 := hN.frm hF0 HMB.out
  obtain ⟨A, c, hAA⟩ := hN.getF HMB.out hv
  have HA := hide hAA
  clear hAA
  have g0 := (HA.out _ hF0).1
  have a1 := hO.s1
  have aT := hO.rT.cell (i := v) (by omega)
  have fT := hO.rT.frozen v
  have b0 := hO0.s0
  have b6 := hO0.s6
  have f6 := hO0.str.frozen 6
  go_enter Try.func21, Try.ntmps21
  go_wp2
  go_region
  clear a1 aT fT b0 b6 f6 g0
  have hO1 := (hO0.work ok (wrap64 (wk + ((adj v).length : Int)))).drewN 1
  have hF1 : Frm (Six y nv) w (((w.setCell ⟨y.T, v, none⟩ (.bool true)).setCell ⟨y.b, 6, none⟩ (.int .i64 (wrap64 (wk + ((adj v).length : Int))))).drewN 1) := (hF0.setCell (Or.inl (Or.inl (Or.inl rfl))) _).drewN 1
  clear hO0 hF0 hN0
  rw [World.drew_is_drewN]
  generalize ((w.setCell ⟨y.T, v, none⟩ (.bool true)).setCell ⟨y.b, 6, none⟩ (.int .i64 (wrap64 (wk + ((adj v).length : Int))))).drewN 1 = W1 at hO1 hF1 ⊢
  have hN1 := hN.frm hF1 HMB.out
  have HX : Hid (∀ u, inc cl ((adj v).find? fun x => !up tk v true x) u = cl u + if (adj v).find? (fun x => !up tk v true x) = some u then 1 else 0) := hide fun u => rfl
  generalize htk1 : up tk v true = tk1 at *
  have HTK := hide htk1
  clear htk1
  have c2 := hO1.s2
  have cR := hO1.rR.cell (i := v) (by omega)
  have hrv := HRS.out v hv
  by_cases h1 : rs v = 1
  case' pos =>
    have hq : ((rs v : Int) == 1) = true := by rw [h1]; rfl
    have HH := hide h1
    clear h1
    go_wp2_with fail
    refine (closeWith_any ok v hv W1 hO1 hN1 (G.rng v hv) hdv (fun u hu => by have := HCL.out u hu; omega)).mono ?_
    rintro e W2 ⟨rfl, ⟨wk2, hO2⟩, hF2⟩
    have hF3 : Frm (Six y nv) w W2 := hF1.trans (hF2.mono (fun k _ h => Or.inl h))
    have hN3 := hN.frm hF3 HMB.out
    have hO3 : OS y W2 tk1 (rsk adj rs v 0) (clk adj tk1 rs cl v 0) (isk adj tk1 is v 0) nv (NL ++ nlk adj tk1 is v 0) wk2 := by
      have e1 : NL ++ nlk adj tk1 is v 0 = NL := by simp [nlk]
      rw [e1]
      refine hO2.congr (fun _ _ => rfl) (fun i _ => by simp [rsk]) (fun i _ => ?_) (fun i _ => by simp [isk])
      rw [HX.out]
      simp [clk, HH.out]
    clear hO2 hF2 hq HH hO1 hN1 hF1 c2 cR
  case' neg =>
    have hq : ((rs v : Int) == 1) = false := by simpa using h1
    have HH := hide h1
    clear h1
    have hF3 := hF1
    have hN3 := hN1
    have hO3 : ∃ wk2, OS y W1 tk1 (rsk adj rs v 0) (clk adj tk1 rs cl v 0) (isk adj tk1 is v 0) nv (NL ++ nlk adj tk1 is v 0) wk2 := by
      have e1 : NL ++ nlk adj tk1 is v 0 = NL := by simp [nlk]
      rw [e1]
      refine ⟨_, hO1.congr (fun _ _ => rfl) (fun i _ => by simp [rsk]) (fun i _ => ?_) (fun i _ => by simp [isk])⟩
      simp [clk, HH.out]
    obtain ⟨wk2, hO3⟩ := hO3
    clear hF1 hN1
  all_goals
    have d0 := hO3.s0
    have g1 := (HA.out _ hF3).1
    go_wp2_with fail
    go_loopg [46] (adj v).length (fun g i wr => ∃ k : Nat, k ≤ (adj v).length ∧ g = (adj v).length - k ∧ i = .int .i64 k ∧ (∃ nv' wk', OS y wr tk1 (rsk adj rs v k) (clk adj tk1 rs cl v k) (isk adj tk1 is v k) nv' (NL ++ nlk adj tk1 is v k) wk' ∧ NOk w nv nv') ∧ Frm (Six y nv) w wr)
    case atStart => exact ⟨0, Nat.zero_le _, rfl, rfl, ⟨nv, wk2, hO3, fun g h => Or.inl h⟩, hF3⟩
    case round =>
      obtain ⟨k, hk, rfl, rfl, ⟨nv', wk', hO', hno⟩, hF⟩ := hrel
      clear d0 g1 hO3 hN3 hF3
      by_cases hlt : k < (adj v).length
      · obtain ⟨gb, off, rfl, hc1⟩ := (HA.out _ hF).2 k hlt
        obtain ⟨u, hu⟩ : ∃ u, (adj v)[k] = u := ⟨_, rfl⟩
        have hun : u < y.n := by rw [← hu]; exact G.rng v hv _ (List.getElem_mem hlt)
        rw [hu] at hc1
        have HU := hide hu
        have hnd := G.nd v hv
        have r0 := rsk_at (rs := rs) hnd hlt hu
        have i0 := isk_at (tk := tk1) (is := is) hnd hlt hu
        have hru := HRS.out u hun
        have a2 := hO'.s2
        have aR := hO'.rR.cell (i := u) (by omega)
        have fR := hO'.rR.frozen u
        rw [r0] at aR
        have hOa := hO'.setR ok u (rs u - 1)
        have hFa := hF.setCell (p := ⟨y.R, u, none⟩) (Or.inl (by unfold Six Five; simp)) (.int .i64 (rs u - 1))
        have hR' : ∀ i, up (rsk adj rs v k) u (rs u - 1) i = rsk adj rs v (k + 1) i := rsk_next hnd hlt hu
        have HR' := hide hR'
        clear hR' hu
        have b1 := hOa.s1
        have bT := hOa.rT.cell (i := u) (by omega)
        have b5 := hOa.s5
        have bI := hOa.rI.cell (i := u) (by omega)
        rw [i0] at bI
        have HI0 := hide i0
        have HR0 := hide r0
        clear i0 r0
        cases htu : tk1 u
        · have HTU := hide htu
          rw [htu] at bT
          clear htu
          cases hiu : is u
          · have HIU := hide hiu
            rw [hiu] at bI
            clear hiu
            have fI := hOa.rI.frozen u
            have hOb := hOa.setI ok u
            have hFb := hFa.setCell (p := ⟨y.I, u, none⟩) (Or.inl (by unfold Six Five; simp)) (.bool true)
            have b4 := hOb.s4
            have hnl2 := nlk_le (adj := adj) (tk := tk1) (is := is) (v := v) (k := k)
            have hlb := hOb.str.lt
            have okb := ok.h1; have okc := ok.h2; have okd := ok.h3; have oke := ok.h4; have okf := ok.h5
            go_wp2_with (at_builtin; refine wpList_appJ _ (.tmp 88) (.tmp 90) (u : Int) _ y.B (by simp [zl]; omega) _ _ rfl rfl rfl rfl (hOb.alloc _).own ?_ ?_ ?_)
            · rw [World.cell?_alloc_at _ _ _ _ (by simp)]; rfl
            · simp; simp at hlb; omega
            · intro v1 w1 ho1 hg1 hat1
              obtain ⟨A1, n1, cap1, hv1⟩ : ∃ A1 n1 cap1, v1 = .slice A1 n1 cap1 := by
                obtain ⟨A1, cap1, h, _⟩ := ho1.shape
                exact ⟨A1, _, cap1, h⟩
              have hOc := (hOb.alloc _).app ok hg1 ho1 (by simpa using hat1)
              have hst := (hOb.alloc (.cells #[.int .i64 (u : Int)] 3)).str
              have hst1 := hst.of_block (hg1.block _ hst.lt (fun e => (hOb.far _ e.symm).1 rfl))
              have e4 : w1.cell? ⟨y.b, 4, none⟩ = some nv' := hst1.cell (i := 4) (by decide)
              have f4 := hst1.frozen 4
              have hFc := ((hFb.alloc (.cells #[.int .i64 (u : Int)] 3)).grown hg1 (fun g hg => by
                rcases hno g hg with h | h
                · exact Or.inl (Or.inr h)
                · exact Or.inr h)).setCell (p := ⟨y.b, 4, none⟩) (Or.inl (by unfold Six Five; simp)) v1
              have hnoc : NOk w nv v1 := by
                intro g hg
                rcases hat1 with e | e
                · exact hno g (by rw [← e]; exact hg)
                · rw [e] at hg
                  simp only [Option.some.injEq] at hg
                  have := hF.size
                  right
                  omega
              clear hOb hFb hg1 hat1 ho1 hst hst1
              subst hv1
              go_wp2_with fail
              go_roundg ((adj v).length - (k + 1))
              case measure => omega
              case rel =>
                refine ⟨k + 1, by omega, rfl, by go_num, ⟨_, wk', ?_, hnoc⟩, hFc⟩
                have en : NL ++ nlk adj tk1 is v (k + 1) = NL ++ nlk adj tk1 is v k ++ [u] := by
                  rw [nlk_next hlt HU.out, if_pos (by rw [HTU.out, HIU.out]; rfl), List.append_assoc]
                rw [en]
                refine hOc.congr (fun _ _ => rfl) (fun i _ => HR'.out i) (fun i _ => ?_) (fun i _ => ?_)
                · rw [clk_next hlt HU.out, HTU.out]; simp
                · rw [isk_next hlt HU.out]
                  unfold up
                  by_cases e : i = u
                  · subst e; rw [if_pos rfl, HTU.out]; simp
                  · rw [if_neg e]; simp [e]
          · have HIU := hide hiu
            rw [hiu] at bI
            clear hiu
            go_wp2_with fail
            go_roundg ((adj v).length - (k + 1))
            case measure => omega
            case rel =>
              refine ⟨k + 1, by omega, rfl, by go_num, ⟨nv', wk', ?_, hno⟩, hFa⟩
              have en : NL ++ nlk adj tk1 is v (k + 1) = NL ++ nlk adj tk1 is v k := by
                rw [nlk_next hlt HU.out, if_neg (by rw [HTU.out, HIU.out]; decide), List.append_nil]
              rw [en]
              refine hOa.congr (fun _ _ => rfl) (fun i _ => HR'.out i) (fun i _ => ?_) (fun i _ => ?_)
              · rw [clk_next hlt HU.out, HTU.out]; simp
              · rw [isk_next hlt HU.out]
                by_cases e : i = u
                · subst e; rw [HI0.out, HIU.out]; rfl
                · simp [e]
        · have HTU := hide htu
          rw [htu] at bT
          clear htu
          have en : Hid (NL ++ nlk adj tk1 is v (k + 1) = NL ++ nlk adj tk1 is v k) := hide (by
            rw [nlk_next hlt HU.out, if_neg (by rw [HTU.out]; simp), List.append_nil])
          have ei : Hid (∀ i, isk adj tk1 is v k i = isk adj tk1 is v (k + 1) i) := hide (fun i => by
            rw [isk_next hlt HU.out]
            by_cases e : i = u
            · subst e; rw [HTU.out]; simp
            · simp [e])
          have b2 := hOa.s2
          have bR := hOa.rR.cell (i := u) (by omega)
          rw [show up (rsk adj rs v k) u (rs u - 1) u = rs u - 1 by unfold up; rw [if_pos rfl]] at bR
          by_cases h2 : rs u = 2
          · have HH2 := hide h2
            have hq2 : ((rs u - 1 : Int) == 1) = true := by rw [h2]; rfl
            clear h2
            have hNa := hN.frm hFa HMB.out
            go_wp2_with fail
            refine (closeWith_any ok u hun _ hOa hNa (G.rng u hun) (HD.out u hun) (fun x hx => by
              have h1 := HCL.out x hx
              have h2 := clk_le (adj := adj) (tk := tk1) (rs := rs) (cl := cl) (v := v) (k := k) x hk
              omega)).mono ?_
            rintro e W3 ⟨rfl, ⟨wk3, hO3⟩, hF3⟩
            have hFc : Frm (Six y nv) w W3 := hFa.trans (hF3.mono (fun k _ h => Or.inl h))
            clear hNa hF3
            go_wp2_with fail
            go_roundg ((adj v).length - (k + 1))
            case measure => omega
            case rel =>
              refine ⟨k + 1, by omega, rfl, by go_num, ⟨nv', wk3, ?_, hno⟩, hFc⟩
              rw [en.out]
              refine hO3.congr (fun _ _ => rfl) (fun i _ => HR'.out i) (fun i _ => ?_) (fun i _ => ei.out i)
              rw [clk_next hlt HU.out, HTU.out, HH2.out]
              unfold inc
              simp
          · have HH2 := hide h2
            have hq2 : ((rs u - 1 : Int) == 1) = false := by simp; omega
            clear h2
            go_wp2_with fail
            go_roundg ((adj v).length - (k + 1))
            case measure => omega
            case rel =>
              refine ⟨k + 1, by omega, rfl, by go_num, ⟨nv', wk', ?_, hno⟩, hFa⟩
              rw [en.out]
              refine hOa.congr (fun _ _ => rfl) (fun i _ => HR'.out i) (fun i _ => ?_) (fun i _ => ei.out i)
              rw [clk_next hlt HU.out]
              simp [HH2.out]
      · have hkk : k = (adj v).length := by omega
        subst hkk
        go_wp2_with fail
        go_end0
        obtain rfl := HTK.out
        exact ⟨rfl, ⟨nv', wk', hO', hno⟩, hF⟩
end Go.Proofs.Qxb6605238a
