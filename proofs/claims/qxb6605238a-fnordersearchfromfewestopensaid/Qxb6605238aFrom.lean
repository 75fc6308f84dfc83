import Derived.Test.Qxb6605238aOr
import Derived.Deep.Cut
import Derived.Deep.CutRange
import Derived.Deep.CutBlock
namespace Go.Proofs.Qxb6605238a
open Go.RowKit Go.Deep
set_option linter.unusedVariables false
set_option linter.unusedSimpArgs false

variable {y : Lay} {tk : Nat → Bool} {rs cl : Nat → Int} {is : Nat → Bool} {nv : Value} {NL : List Nat} {wk : Int} {adj : Nat → List Nat}

def deg0 (adj : Nat → List Nat) (r0 : Nat → Int) (k : Nat) : Nat → Int := fun i => if i < k then ((adj i).length : Int) else r0 i

theorem deg0_next {r0 : Nat → Int} {k : Nat} (i : Nat) : up (deg0 adj r0 k) k ((adj k).length : Int) i = deg0 adj r0 (k + 1) i := by
  unfold up deg0
  by_cases e : i = k
  · subst e; rw [if_pos rfl, if_pos (by omega)]
  · rw [if_neg e]
    by_cases h : i < k
    · rw [if_pos h, if_pos (by omega)]
    · rw [if_neg h, if_neg (by omega)]

theorem OR.s0 {wr : World} (h : OR y wr tk rs cl is nv wk) : wr.cell? ⟨y.b, 0, none⟩ = some (.slice (some ⟨y.G, 0, none⟩) y.n y.n) := h.str.cell (i := 0) (by decide)
theorem OR.s1 {wr : World} (h : OR y wr tk rs cl is nv wk) : wr.cell? ⟨y.b, 1, none⟩ = some (.slice (some ⟨y.T, 0, none⟩) y.nT y.nT) := h.str.cell (i := 1) (by decide)
theorem OR.s2 {wr : World} (h : OR y wr tk rs cl is nv wk) : wr.cell? ⟨y.b, 2, none⟩ = some (.slice (some ⟨y.R, 0, none⟩) y.nR y.nR) := h.str.cell (i := 2) (by decide)
theorem OR.s3 {wr : World} (h : OR y wr tk rs cl is nv wk) : wr.cell? ⟨y.b, 3, none⟩ = some (.slice (some ⟨y.C, 0, none⟩) y.nC y.nC) := h.str.cell (i := 3) (by decide)
theorem OR.s4 {wr : World} (h : OR y wr tk rs cl is nv wk) : wr.cell? ⟨y.b, 4, none⟩ = some (nv) := h.str.cell (i := 4) (by decide)
theorem OR.s5 {wr : World} (h : OR y wr tk rs cl is nv wk) : wr.cell? ⟨y.b, 5, none⟩ = some (.slice (some ⟨y.I, 0, none⟩) y.nI y.nI) := h.str.cell (i := 5) (by decide)
theorem OR.s6 {wr : World} (h : OR y wr tk rs cl is nv wk) : wr.cell? ⟨y.b, 6, none⟩ = some (.int .i64 wk) := h.str.cell (i := 6) (by decide)

/-- The best so far. -/
def BS (adj : Nat → List Nat) (L K : List Nat) (nx a b c : Value) : Prop :=
  (nx = .int .i64 (-1) ∧ K = []) ∨ ∃ u : Nat, u ∈ K ∧ nx = .int .i64 u ∧ a = .int .i64 (sc adj L u) ∧ b = .int .i64 (tn adj L u) ∧ c = .int .i64 (rst adj L u) ∧ ∀ x, x ∈ K → x ≠ u → btU adj L u x

theorem BS.first {L : List Nat} {x : Nat} : BS adj L ([] ++ [x]) (.int .i64 x) (.int .i64 (sc adj L x)) (.int .i64 (tn adj L x)) (.int .i64 (rst adj L x)) :=
  Or.inr ⟨x, by simp, rfl, rfl, rfl, rfl, fun z hz hne => absurd (by simpa using hz) hne⟩
theorem BS.newer {L K : List Nat} {x c : Nat} (hbest : ∀ z, z ∈ K → z ≠ c → btU adj L c z) (h : btU adj L x c) : BS adj L (K ++ [x]) (.int .i64 x) (.int .i64 (sc adj L x)) (.int .i64 (tn adj L x)) (.int .i64 (rst adj L x)) := by
  refine Or.inr ⟨x, by simp, rfl, rfl, rfl, rfl, fun z hz hne => ?_⟩
  rcases List.mem_append.1 hz with h1 | h1
  · by_cases e : z = c
    · subst e; exact h
    · exact bt_trans h (hbest z h1 e)
  · exact absurd (by simpa using h1) hne
theorem BS.older {L K : List Nat} {x c : Nat} (hc : c ∈ K) (hbest : ∀ z, z ∈ K → z ≠ c → btU adj L c z) (hne : x ≠ c) (h : ¬ btU adj L x c) : BS adj L (K ++ [x]) (.int .i64 c) (.int .i64 (sc adj L c)) (.int .i64 (tn adj L c)) (.int .i64 (rst adj L c)) := by
  refine Or.inr ⟨c, by simp [hc], rfl, rfl, rfl, rfl, fun z hz hz2 => ?_⟩
  rcases List.mem_append.1 hz with h1 | h1
  · exact hbest z h1 hz2
  · have : z = x := by simpa using h1
    subst this
    exact bt_total hne h
theorem bt_cases {s t r u s' t' r' u' : Int} (h : bt s t r u s' t' r' u') : s < s' ∨ (s = s' ∧ t' < t) ∨ (s = s' ∧ t = t' ∧ r < r') ∨ (s = s' ∧ t = t' ∧ r = r' ∧ u < u') := by unfold bt at h; omega
theorem not_bt_cases {s t r u s' t' r' u' : Int} (h : ¬ bt s t r u s' t' r' u') : s' < s ∨ (s = s' ∧ t < t') ∨ (s = s' ∧ t = t' ∧ r' < r) ∨ (s = s' ∧ t = t' ∧ r = r' ∧ u' ≤ u) := by unfold bt at h; omega

theorem bt_facts (S T R X S' T' R' C : Int) :
    (bt S T R X S' T' R' C ∧ decide (S < S') = true) ∨
    (bt S T R X S' T' R' C ∧ decide (S < S') = false ∧ (S == S') = true ∧ decide (T' < T) = true) ∨
    (bt S T R X S' T' R' C ∧ decide (S < S') = false ∧ (S == S') = true ∧ decide (T' < T) = false ∧ (T == T') = true ∧ decide (R < R') = true) ∨
    (bt S T R X S' T' R' C ∧ decide (S < S') = false ∧ (S == S') = true ∧ decide (T' < T) = false ∧ (T == T') = true ∧ decide (R < R') = false ∧ (R == R') = true ∧ decide (X < C) = true) ∨
    (¬ bt S T R X S' T' R' C ∧ decide (S < S') = false ∧ (S == S') = false) ∨
    (¬ bt S T R X S' T' R' C ∧ decide (S < S') = false ∧ (S == S') = true ∧ decide (T' < T) = false ∧ (T == T') = false) ∨
    (¬ bt S T R X S' T' R' C ∧ decide (S < S') = false ∧ (S == S') = true ∧ decide (T' < T) = false ∧ (T == T') = true ∧ decide (R < R') = false ∧ (R == R') = false) ∨
    (¬ bt S T R X S' T' R' C ∧ decide (S < S') = false ∧ (S == S') = true ∧ decide (T' < T) = false ∧ (T == T') = true ∧ decide (R < R') = false ∧ (R == R') = true ∧ decide (X < C) = false) := by
  by_cases h1 : S < S'
  · exact Or.inl ⟨Or.inl h1, decide_eq_true h1⟩
  have q1 := decide_eq_false h1
  by_cases h2 : S = S'
  case neg => exact Or.inr (Or.inr (Or.inr (Or.inr (Or.inl ⟨fun h => (by unfold bt at h; omega), q1, by simp [h2]⟩))))
  have q2 : (S == S') = true := by simp [h2]
  by_cases h3 : T' < T
  · exact Or.inr (Or.inl ⟨Or.inr ⟨h2, Or.inl h3⟩, q1, q2, decide_eq_true h3⟩)
  have q3 := decide_eq_false h3
  by_cases h4 : T = T'
  case neg => exact Or.inr (Or.inr (Or.inr (Or.inr (Or.inr (Or.inl ⟨fun h => (by unfold bt at h; omega), q1, q2, q3, by simp [h4]⟩)))))
  have q4 : (T == T') = true := by simp [h4]
  by_cases h5 : R < R'
  · exact Or.inr (Or.inr (Or.inl ⟨Or.inr ⟨h2, Or.inr ⟨h4, Or.inl h5⟩⟩, q1, q2, q3, q4, decide_eq_true h5⟩))
  have q5 := decide_eq_false h5
  by_cases h6 : R = R'
  case neg => exact Or.inr (Or.inr (Or.inr (Or.inr (Or.inr (Or.inr (Or.inl ⟨fun h => (by unfold bt at h; omega), q1, q2, q3, q4, q5, by simp [h6]⟩))))))
  have q6 : (R == R') = true := by simp [h6]
  by_cases h7 : X < C
  · exact Or.inr (Or.inr (Or.inr (Or.inl ⟨Or.inr ⟨h2, Or.inr ⟨h4, Or.inr ⟨h6, h7⟩⟩⟩, q1, q2, q3, q4, q5, q6, decide_eq_true h7⟩)))
  · exact Or.inr (Or.inr (Or.inr (Or.inr (Or.inr (Or.inr (Or.inr ⟨fun h => (by unfold bt at h; omega), q1, q2, q3, q4, q5, q6, decide_eq_false h7⟩))))))

/-- The main loop's relation. -/
structure FR (y : Lay) (adj : Nat → List Nat) (r0 : Nat → Int) (start : Nat) (pre : List Int) (w wr : World) (nv ov : Value) (L : List Nat) (u f : Nat) (nv' ov' : Value) (K : List Nat) : Prop where
  un : u < y.n
  uL : u ∉ L
  run : (L = [] ∧ u = start) ∨ (Run y.n adj start L ∧ Next y.n adj L u)
  fst : ∀ x, x < f → x ∈ L ∨ x = u
  fn : f ≤ y.n
  nd : L.Nodup
  len : pre.length + L.length + 1 ≤ y.n
  ss : SS y adj r0 wr L nv' K
  kept : Kept y.n adj L K
  own : OwnI wr y.B ov' (pre ++ zl L)
  far : ∀ k, ov'.ownBlock = some k → ¬ Five y k ∧ nv'.ownBlock ≠ some k
  nok : NOk w nv nv'
  ook : NOk w ov ov'
  frm : Frm (Sev y nv ov) w wr

theorem Frm.trans2 {M M' : Nat → Prop} {a b c : World} (h : Frm M a b) (k : Frm M' b c) (hm : ∀ i, i < a.heap.size → M' i → M i) : Frm M a c :=
  ⟨k.os.trans h.os, k.tape.trans h.tape, k.output.trans h.output, Nat.le_trans h.size k.size, fun i hi hM => (k.block i (Nat.lt_of_lt_of_le hi h.size) (fun h2 => hM (hm i hi h2))).trans (h.block i hi hM)⟩

theorem start_ss {r0 : Nat → Int} {wr : World} {v : Value} (h : OS y wr (fun _ => false) (deg0 adj r0 y.n) (fun _ => 0) (fun _ => false) v [] wk) : SS y adj r0 wr [] v [] :=
  ⟨wk, h.congr (fun i _ => by simp [inL]) (fun i _ => by simp [deg0, rsS, rst_nil]) (fun i _ => by simp [clS, cls_nil]) (fun i _ => by simp [isS, isn_nil])⟩

set_option maxRecDepth 100000 in
set_option maxHeartbeats 4000000 in
theorem from_any (ok : y.Ok) (G : Gr y.n adj) (start : Nat) (hst : start < y.n) (r0 : Nat → Int) (w : World) (ov : Value) (pre : List Int) (hov : OwnI w y.B ov pre) (hpl : pre.length < y.n) (hof : ∀ k, ov.ownBlock = some k → ¬ Five y k ∧ nv.ownBlock ≠ some k)
    (hO : OR y w tk r0 cl is nv wk) {zs : List Int} (hown : OwnI w y.B nv zs) (hfv : ∀ k, nv.ownBlock = some k → ¬ Five y k) (hN : Nb w y.B y.G y.n adj) (hd : ∀ x, x < y.n → (adj x).length ≤ 65536) :
    Calls Try.prog 19 #[.pointer (some ⟨y.b, 0, none⟩), .int .i64 start, ov] w fun e w' => ∃ ov' L nv' NL' last, e = .returned ov' ∧ OwnI w' y.B ov' (pre ++ zl L) ∧ Run y.n adj start L ∧ L.length = y.n - pre.length ∧ SS y adj r0 w' L nv' NL' ∧ L.getLast? = some last ∧ Near y.n adj L last NL' ∧ Frm (Sev y nv ov) w w' := by
  have o6 := ok.h6; have o7 := ok.h7; have o8 := ok.h8; have o9 := ok.h9; have onp := ok.np
  have m1 := ok.m1; have m2 := ok.m2; have m3 := ok.m3; have m4 := ok.m4
  have hMB : ∀ k, k < y.B → ¬ Sev y nv ov k := by
    intro k hk h
    rcases h with h | h | h
    · unfold Five at h
      have := ok.h1; have := ok.h2; have := ok.h3; have := ok.h4; have := ok.h5
      omega
    · have := (World.ownsRow.lt hown k h).1
      omega
    · have := (World.ownsRow.lt hov k h).1
      omega
  have HMB := hide hMB
  have HD := hide hd
  have HOF := hide hof
  clear hMB hd hof
  obtain ⟨A, m, c, hnv, hAg⟩ : ∃ A m c, nv = .slice A m c ∧ ∀ a, A = some a → ∃ g, a = (⟨g, 0, none⟩ : Addr) := by
    rcases hown.2 with ⟨h1, _⟩ | ⟨g, cap, cur, h1, _⟩
    · exact ⟨none, 0, 0, h1, fun a h => by cases h⟩
    · exact ⟨_, _, _, h1, fun a h => by cases h; exact ⟨g, rfl⟩⟩
  have hsl := run_cut0 A m c hAg
  clear hAg
  have a0 := hO.s0
  have a1 := hO.s1
  have hcT := run_clr4 hO.rT (by omega)
  have hO1 := hO.clrT ok
  have b3 := hO1.s3
  have hcC := run_clr3 hO1.rC (by omega)
  have hO2 := hO1.clrC ok
  have c5 := hO2.s5
  have hcI := run_clr4 hO2.rI (by omega)
  have hO3 := hO2.clrI ok
  have d0 := hO3.s0
  go_enter Try.func19, Try.ntmps19
  go_wp2_with fail
  have hF3 : Frm (Five y) w (((w.setCells y.T 0 (List.replicate y.nT (.bool false))).setCells y.C 0 (List.replicate y.nC (.int .i64 0))).setCells y.I 0 (List.replicate y.nI (.bool false))) := by
    refine Frm.trans (Frm.trans ((frm_setCells (b := y.T) _ 0 (Frm.refl _ _)).mono (fun k _ h => by unfold Five; simp [h])) ((frm_setCells (b := y.C) _ 0 (Frm.refl _ _)).mono (fun k _ h => by unfold Five; simp [h]))) ((frm_setCells (b := y.I) _ 0 (Frm.refl _ _)).mono (fun k _ h => by unfold Five; simp [h]))
  clear a0 a1 hcT hO1 b3 hcC hO2 c5 hcI d0
  generalize ((w.setCells y.T 0 (List.replicate y.nT (.bool false))).setCells y.C 0 (List.replicate y.nC (.int .i64 0))).setCells y.I 0 (List.replicate y.nI (.bool false)) = W3 at hO3 hF3 ⊢
  go_loopg [42] y.n (fun g i wr => ∃ k : Nat, k ≤ y.n ∧ g = y.n - k ∧ i = .int .i64 k ∧ OR y wr (fun _ => false) (deg0 adj r0 k) (fun _ => 0) (fun _ => false) nv wk ∧ Frm (Five y) w wr)
  case atStart => exact ⟨0, Nat.zero_le _, rfl, rfl, hO3.rsEq (fun i => by simp [deg0]), hF3⟩
  case round =>
    obtain ⟨k, hk, rfl, rfl, hO4, hF4⟩ := hrel
    clear hO3 hF3
    by_cases hlt : k < y.n
    · obtain ⟨A', c', hAA⟩ := hN.getF (M := Five y) (fun k hk h => HMB.out k hk (Or.inl h)) hlt
      have g0 := (hAA _ hF4).1
      clear hAA
      have e2 := hO4.s2
      have eR := hO4.rR.cell (i := k) (by omega)
      have fR := hO4.rR.frozen k
      have hdk := HD.out k hlt
      have hO5 := hO4.setR ok k ((adj k).length : Int)
      have hF5 := hF4.setCell (p := ⟨y.R, k, none⟩) (Or.inl (by unfold Five; simp)) (.int .i64 ((adj k).length : Int))
      go_wp2_with fail
      go_roundg (y.n - (k + 1))
      case measure => omega
      case rel => exact ⟨k + 1, by omega, rfl, by go_num, hO5.rsEq (fun i => deg0_next i), hF5⟩
    · have hkk : k = y.n := by omega
      subst hkk
      have e4 := hO4.s4
      have f4 := hO4.str.frozen 4
      have hfin := own_cut0 (hF4.own hown hfv)
      have hO5 := hO4.setN ok (cut0 nv) [] hfin.1 (five_far (fun k hk => hfv k (by rw [← hfin.2]; exact hk)))
      have hF5 := hF4.setCell (p := ⟨y.b, 4, none⟩) (Or.inl (by unfold Five; simp)) (cut0 nv)
      have hnok : NOk w nv (cut0 nv) := fun g hg => Or.inl (by rw [← hfin.2]; exact hg)
      have hcz : cut0 nv = .slice A 0 c := by rw [hnv]; rfl
      have hfar : ∀ k, ov.ownBlock = some k → ¬ Five y k ∧ (cut0 nv).ownBlock ≠ some k := fun k hk => ⟨(HOF.out k hk).1, by rw [hfin.2]; exact (HOF.out k hk).2⟩
      have hov5 := hF5.own hov (fun k hk h => (HOF.out k hk).1 h)
      clear hfin hO4 hF4
      rw [hcz] at hO5 hF5 hnok hfar hov5
      rw [hnv] at e4
      have hFR : FR y adj r0 start pre w _ nv ov [] start 0 (.slice A 0 c) ov [] := ⟨hst, by simp, Or.inl ⟨rfl, rfl⟩, fun x hx => absurd hx (Nat.not_lt_zero _), Nat.zero_le _, List.nodup_nil, by simp; omega, start_ss hO5, kept_nil _ _, by simpa [zl] using hov5, hfar, hnok, fun g hg => Or.inl hg, hF5.mono (fun k _ h => Or.inl h)⟩
      clear hov5 hO5 hF5 hnok hfar hcz hov hO hown hfv
      go_wp2_with fail
      clear e4 f4 hsl hlt hk
      go_loopg [2, 10, 11] (y.n - pre.length) (fun g ov' nx fi wr => ∃ (L : List Nat) (u f : Nat) (nv' : Value) (K : List Nat), nx = .int .i64 u ∧ fi = .int .i64 f ∧ g = y.n - pre.length - L.length ∧ FR y adj r0 start pre w wr nv ov L u f nv' ov' K)
      case atStart => exact ⟨[], start, 0, _, [], rfl, rfl, by simp, hFR⟩
      case round =>
        obtain ⟨L, u, f, nv', K, rfl, rfl, rfl, hR⟩ := hrel
        clear hFR
        have hN' := hN.frm hR.frm HMB.out
        go_wp2_with fail
        refine (take_sem ok G hR.un hR.uL _ hR.ss hN' HD.out hR.kept).mono ?_
        rintro e w1 ⟨rfl, ⟨nv1, NL1, ⟨wk1, hO1⟩, hNear, hno1⟩, hF1⟩
        have HNear := hide hNear
        have hF01 : Frm (Sev y nv ov) w w1 := hR.frm.trans2 hF1 (fun k hk h => by
          rcases h with h | h
          · exact Or.inl h
          · rcases hR.nok k h with h2 | h2
            · exact Or.inr (Or.inl h2)
            · omega)
        have hov1 : OwnI w1 y.B _ (pre ++ zl L) := hF1.own hR.own (fun k hk h => by
          rcases h with h | h
          · exact (hR.far k hk).1 h
          · exact (hR.far k hk).2 h)
        have far1 : Hid (∀ k, _ = some k → ¬ Five y k ∧ nv1.ownBlock ≠ some k) := hide (fun k hk => ⟨(hR.far k hk).1, fun h => by
          have := (World.ownsRow.lt hR.own k hk).2
          rcases hno1 k h with h2 | h2
          · exact (hR.far k hk).2 h2
          · omega⟩)
        have hno1' : Hid (NOk w nv nv1) := hide (fun g hg => by
          rcases hno1 g hg with h | h
          · exact hR.nok g h
          · right
            have := hR.frm.size
            omega)
        have hook := hide hR.ook
        have hrun := hide hR.run
        have hfst := hide hR.fst
        have hndL := hR.nd
        have hlen := hR.len
        have hfn := hR.fn
        have huL := hide hR.uL
        have hun := hR.un
        have hsz1 := hF01.size
        clear hno1 hF1 hR hNear hN'
        have hBw : y.B ≤ w1.heap.size := by
          have := hO1.rT.lt
          have := ok.h1
          omega
        have hzl : (pre ++ zl L).length = pre.length + L.length := by simp [zl]
        have HZL := hide hzl
        clear hzl
        go_wp2_with (at_builtin; refine wpList_appJ _ (.tmp 68) (.tmp 70) (u : Int) _ y.B (by rw [HZL.out]; omega) _ _ rfl rfl rfl rfl (hov1.alloc _) ?_ ?_ ?_)
        · rw [World.cell?_alloc_at _ _ _ _ (by simp)]; rfl
        · simp; omega
        · intro v2 w2 ho2 hg2 hat2
          obtain ⟨A2, n2, cap2, hv2, hn2⟩ : ∃ A2 n2 cap2, v2 = .slice A2 n2 cap2 ∧ n2 = pre.length + L.length + 1 := by
            obtain ⟨A2, cap2, h, _⟩ := ho2.shape
            exact ⟨A2, _, cap2, h, by simp [zl]; omega⟩
          have HN2 := hide hn2
          have hn2b : n2 ≤ y.n := by omega
          clear hn2
          have hgF := frm_grown hg2
          have hO2 := (hO1.alloc (.cells #[.int .i64 (u : Int)] 3)).frm hgF (fun k hk h => (far1.out k h).1 hk) (fun k hk h => (far1.out k h).2 hk)
          have hF2 : Frm (Sev y nv ov) w w2 := (hF01.alloc (.cells #[.int .i64 (u : Int)] 3)).grown hg2 (fun k hk => by
            rcases hook.out k hk with h | h
            · exact Or.inl (Or.inr (Or.inr h))
            · exact Or.inr h)
          have hook2 : Hid (NOk w ov v2) := hide (fun g hg => by
            rcases hat2 with e | e
            · exact hook.out g (by rw [← e]; exact hg)
            · rw [e] at hg
              simp only [Option.some.injEq] at hg
              right; omega)
          have far2 : Hid (∀ k, v2.ownBlock = some k → ¬ Five y k ∧ nv1.ownBlock ≠ some k) := hide (fun k hk => by
            rcases hat2 with e | e
            · exact far1.out k (by rw [← e]; exact hk)
            · rw [e] at hk
              simp only [Option.some.injEq] at hk
              have t1 := hO1.str.lt; have t2 := hO1.rT.lt; have t3 := hO1.rR.lt; have t4 := hO1.rC.lt; have t5 := hO1.rI.lt
              refine ⟨fun h => ?_, fun h => ?_⟩
              · unfold Five at h; omega
              · have := (World.ownsRow.lt hO1.own k h).2
                omega)
          have ho2' : OwnI w2 y.B v2 (pre ++ zl (L ++ [u])) := by
            have e : zl (L ++ [u]) = zl L ++ [(u : Int)] := by simp [zl]
            rw [e]
            simpa [List.append_assoc] using ho2
          clear hgF hO1 hF01 hg2 hat2 ho2 far1 hook hov1 HZL
          subst hv2
          have hrun2 : Hid (Run y.n adj start (L ++ [u])) := hide (by
            rcases hrun.out with ⟨h1, h2⟩ | ⟨h1, h2⟩
            · subst h1; subst h2
              simpa using run_one hst
            · exact h1.snoc h2)
          by_cases hend : n2 = y.n
          · have hq : ((n2 : Int) == (y.n : Int)) = true := by rw [hend]; simp
            have HE := hide hend
            clear hend
            go_wp2_with fail
            go_ret
            refine ⟨_, L ++ [u], nv1, NL1, u, rfl, ho2', hrun2.out, ?_, ⟨wk1, hO2⟩, by simp, HNear.out, hF2⟩
            have e1 := HN2.out
            have e2 := HE.out
            simp only [List.length_append, List.length_singleton]
            omega
          · have hq : ((n2 : Int) == (y.n : Int)) = false := by simp; omega
            have HE := hide hend
            clear hend
            have hsz2 := hF2.size
            have hnear := hO2.own
            obtain ⟨A3, m3', c3, hnv1, hAg3⟩ : ∃ A m c, nv1 = .slice A m c ∧ ∀ a, A = some a → ∃ g, a = (⟨g, 0, none⟩ : Addr) := by
              rcases hnear.2 with ⟨h1, _⟩ | ⟨g, cap, cur, h1, _⟩
              · exact ⟨none, 0, 0, h1, fun a h => by cases h⟩
              · exact ⟨_, _, _, h1, fun a h => by cases h; exact ⟨g, rfl⟩⟩
            have hsl := run_cut0 A3 m3' c3 hAg3
            have s4 := hO2.s4
            have hflt := Flt.start hnear
            have hcz : cut0 nv1 = .slice A3 0 c3 := by rw [hnv1]; rfl
            have hm3 : m3' = NL1.length := by
              obtain ⟨A9, c9, h9, _⟩ := hnear.shape
              rw [hnv1] at h9
              simp only [Value.slice.injEq] at h9
              rw [h9.2.1]; simp [zl]
            rw [hcz] at hflt
            rw [hnv1] at s4
            subst hm3
            clear hAg3
            go_wp2_with fail
            generalize hL' : L ++ [u] = L' at *
            have huL' : Hid (u ∈ L') := hide (by rw [← hL']; simp)
            have HL' := hide hL'
            clear hL'
            have hfarN := hide hO2.far
            have hNLn : NL1.length ≤ y.n := nodup_le HNear.out.nd (fun x hx => ((HNear.out.mem x).1 hx).1)
            have hOR := hO2.rows
            clear s4 hsl hcz hq hnear hO2
            go_loopg [10, 12, 13, 14, 15, 87] NL1.length (fun g nx a12 a13 a14 kv idx wr => ∃ (i : Nat) (K' : List Nat), idx = .int .i64 i ∧ i ≤ NL1.length ∧ g = NL1.length - i ∧ K' = (NL1.take i).filter (fun x => !inL L' x) ∧ BS adj L' K' nx a12 a13 a14 ∧ OR y wr (inL L') (rsS y.n adj L' r0) (clS y.n adj L') (isS y.n adj L') nv1 wk1 ∧ Flt wr y.B nv1 kv NL1 i K' ∧ OwnI wr y.B (.slice A2 n2 cap2) (pre ++ zl L') ∧ Frm (Sev y nv ov) w wr)
            case atStart => exact ⟨0, [], rfl, Nat.zero_le _, rfl, rfl, Or.inl ⟨rfl, rfl⟩, hOR, hflt, ho2', hF2⟩
            case round =>
              obtain ⟨i, K', rfl, hi, rfl, hK', hBS, hOR', hFlt, hown', hF'⟩ := hrel
              clear hflt hOR ho2' hF2
              have HK' := hide hK'
              have HBS := hide hBS
              clear hK' hBS
              by_cases hlt : i < NL1.length
              · obtain ⟨g, cap, V, hnv, hkv, hKc, hrow, hcell, hnext⟩ := hFlt.at_ hlt
                obtain ⟨x, hx⟩ : ∃ x, NL1[i] = x := ⟨_, rfl⟩
                rw [hx] at hcell hnext
                have hxn : x < y.n := by rw [← hx]; exact ((HNear.out.mem _).1 (List.getElem_mem hlt)).1
                have HX := hide hx
                have HNX := hide hnext
                clear hx hnext
                rw [hnv1] at hnv
                simp only [Value.slice.injEq] at hnv
                obtain ⟨hA3, _, hc3⟩ := hnv
                subst hA3
                subst hc3
                subst hkv
                have t1 := hOR'.s1
                have tT := hOR'.rT.cell (i := x) (by omega)
                have hgN : nv1.ownBlock = some g := by rw [hnv1]; rfl
                have HGN := hide hgN
                clear hgN
                cases htx : inL L' x
                · have HTX := hide htx
                  rw [htx] at tT
                  clear htx
                  go_wp2_with (at_builtin; refine wpList_appIn _ (.tmp 98) (.tmp 100) (.int .i64 (x : Int)) rfl g K'.length c3 V _ rfl rfl rfl rfl (hrow.alloc _) ?_ hKc ?_)
                  · rw [World.cell?_alloc_at _ _ _ _ (by simp)]; rfl
                  · intro w3 hrow3 hg3
                    have hgF := frm_grown hg3
                    have hOR3 := (hOR'.alloc (.cells #[.int .i64 (x : Int)] 3)).frm hgF (fun k hk h => by
                      have h2 : g = k := by simpa using h
                      subst h2
                      exact far_five hfarN.out hk HGN.out)
                    have hown3 := hgF.own (hown'.alloc (.cells #[.int .i64 (x : Int)] 3)) (fun k hk h => by
                      have h2 : g = k := by simpa using h
                      subst h2
                      exact (far2.out _ hk).2 HGN.out)
                    have hF3 : Frm (Sev y nv ov) w w3 := (hF'.alloc (.cells #[.int .i64 (x : Int)] 3)).grown hg3 (fun k hk => by
                      have h2 : g = k := by simpa using hk
                      subst h2
                      rcases hno1'.out _ HGN.out with h | h
                      · exact Or.inl (Or.inr (Or.inl h))
                      · exact Or.inr h)
                    have hFlt3 := HNX.out w3 hrow3
                    have HK3 : Hid (K' ++ [x] = (NL1.take (i + 1)).filter (fun x => !inL L' x)) := hide (by
                      rw [take_next hlt, List.filter_append, ← HK'.out, HX.out]
                      simp [HTX.out])
                    have hFltK := HK'
                    clear hgF hrow3 hg3 HNX hOR' hFlt hown' hF' HK' hrow hcell t1 tT
                    have hs3 := hOR3.s3
                    have hsC := hOR3.rC.cell (i := x) (by omega)
                    have hs2 := hOR3.s2
                    have hsR := hOR3.rR.cell (i := x) (by omega)
                    have hs0 := hOR3.s0
                    obtain ⟨A5, c5, hA5⟩ := hN.getF HMB.out hxn
                    have hsG := (hA5 _ hF3).1
                    clear hA5
                    rw [show clS y.n adj L' x = (cls adj L' x : Int) by unfold clS; rw [if_pos hxn]] at hsC
                    rw [show rsS y.n adj L' r0 x = (rst adj L' x : Int) by unfold rsS; rw [if_pos hxn]] at hsR
                    have hcb := cls_le (adj := adj) (L := L') x
                    have hrb := rst_le (adj := adj) (L := L') x
                    have hdx := HD.out x hxn
                    have HSC : Hid (sc adj L' x = -(cls adj L' x : Int) + (if 0 < rst adj L' x then 1 else 0)) := hide rfl
                    have HTN : Hid (tn adj L' x = ((adj x).length : Int) - (rst adj L' x : Int)) := hide rfl
                    generalize hcx : cls adj L' x = cx at hsC hcb HSC
                    generalize hrx : rst adj L' x = rx at hsR hrb HSC HTN
                    have HRX := hide hrx
                    clear hcx hrx
                    have hxc : Hid (x ∉ K') := hide (by
                      have e := hFltK.out
                      rw [e]
                      intro h
                      have h2 := (List.mem_filter.1 h).1
                      rw [← HX.out] at h2
                      exact not_take HNear.out.nd hlt h2)
                    go_upto_if 117 with fail
                    go_cut [18, 87] from 87 to 195 (fun s18 s87 wx => s18 = .int .i64 (sc adj L' x) ∧ s87 = .int .i64 (i : Int) ∧ wx = w3)
                    case first =>
                      by_cases hpos : 0 < rx
                      · have hd1 : decide ((0 : Int) < (rx : Int)) = true := by simp; omega
                        go_wp2_with fail
                        go_meet
                        exact ⟨by rw [HSC.out, if_pos hpos], rfl, rfl⟩
                      · have hd1 : decide ((0 : Int) < (rx : Int)) = false := by simp; omega
                        go_wp2_with fail
                        go_meet
                        exact ⟨by rw [HSC.out, if_neg hpos, Int.add_zero], rfl, rfl⟩
                    case rest =>
                      obtain ⟨hz1, hz2, hz3⟩ := hcut
                      have hz3' := hz3.symm
                      subst hz1
                      subst hz2
                      clear hz3
                      subst hz3'
                      clear HSC hs3 hsC hcb
                      go_wp2_with fail
                      go_quiet (fail)
                      obtain ⟨S, hS⟩ : ∃ S, sc adj L' x = S := ⟨_, rfl⟩
                      have HS := hide hS
                      rw [hS]
                      clear hS
                      generalize ((adj x).length : Int) - (rx : Int) = T0 at HTN ⊢
                      clear hs0 hsG
                      rcases HBS.out with ⟨hnx, hK0⟩ | ⟨c', hcK, hnx, ha, hb, hc, hbest⟩
                      · subst hnx
                        have HK0 := hide hK0
                        clear hK0
                        go_wp2_with fail
                        go_quiet (fail)
                        go_wp2_with fail
                        go_roundg (NL1.length - (i + 1))
                        case measure => omega
                        case rel =>
                          refine ⟨i + 1, K' ++ [x], by go_num, by omega, rfl, HK3.out, ?_, hOR3.drewN _, hFlt3.drewN _, hown3.drewN _, hF3.drewN _⟩
                          rw [HK0.out, ← HS.out, ← HTN.out, ← HRX.out]
                          exact BS.first
                      · subst hnx
                        subst ha
                        subst hb
                        subst hc
                        have hxc' : x ≠ c' := fun e => hxc.out (by rw [e]; exact hcK)
                        have HXC := hide hxc'
                        have HBEST := hide hbest
                        have HCK := hide hcK
                        clear hxc' hbest hcK
                        have hbt : Hid (btU adj L' x c' ↔ bt S T0 (rx : Int) (x : Int) (sc adj L' c') (tn adj L' c') (rst adj L' c' : Int) (c' : Int)) := hide (by unfold btU; rw [HS.out, HTN.out, HRX.out])
                        have HCS : Hid (BS adj L' (K' ++ [x]) (.int .i64 (x : Int)) (.int .i64 S) (.int .i64 T0) (.int .i64 (rx : Int)) ∨ ¬ bt S T0 (rx : Int) (x : Int) (sc adj L' c') (tn adj L' c') (rst adj L' c' : Int) (c' : Int)) := hide (by
                          by_cases h : btU adj L' x c'
                          · left
                            have := BS.newer HBEST.out h
                            rwa [HS.out, HTN.out, HRX.out] at this
                          · right
                            rwa [hbt.out] at h)
                        have HCO : Hid (BS adj L' (K' ++ [x]) (.int .i64 (c' : Int)) (.int .i64 (sc adj L' c')) (.int .i64 (tn adj L' c')) (.int .i64 (rst adj L' c' : Int)) ∨ bt S T0 (rx : Int) (x : Int) (sc adj L' c') (tn adj L' c') (rst adj L' c' : Int) (c' : Int)) := hide (by
                          by_cases h : btU adj L' x c'
                          · right
                            rwa [hbt.out] at h
                          · left
                            exact BS.older HCK.out HBEST.out HXC.out h)
                        clear hbt HBEST HCK HXC HS HTN HRX
                        generalize sc adj L' c' = S' at HCS HCO ⊢
                        generalize tn adj L' c' = T' at HCS HCO ⊢
                        generalize rst adj L' c' = r' at HCS HCO ⊢
                        go_upto_region 28 with fail
                        go_cut [87, 184] from 87 to 195 (fun s87 s184 wx => s87 = .int .i64 (i : Int) ∧ (∃ t : Bool, s184 = .bool t ∧ (t = true ↔ bt S T0 (rx : Int) (x : Int) S' T' (r' : Int) (c' : Int))) ∧ wx = w3.drewN nq)
                        case first =>
                          rcases bt_facts S T0 (rx : Int) (x : Int) S' T' (r' : Int) (c' : Int) with ⟨hb, q1⟩ | ⟨hb, q1, q2, q3⟩ | ⟨hb, q1, q2, q3, q4, q5⟩ | ⟨hb, q1, q2, q3, q4, q5, q6, q7⟩ | ⟨hb, q1, q2⟩ | ⟨hb, q1, q2, q3, q4⟩ | ⟨hb, q1, q2, q3, q4, q5, q6⟩ | ⟨hb, q1, q2, q3, q4, q5, q6, q7⟩
                          all_goals
                            have HB := hide hb
                            have q0 : decide ((c' : Int) < 0) = false := by simp
                            first | have q5n : decide (rx < r') = true := by simpa using q5 | have q5n : decide (rx < r') = false := by simpa using q5 | skip
                            first | have q6n : (rx == r') = true := by simpa using q6 | have q6n : (rx == r') = false := by simpa using q6 | skip
                            first | have q7n : decide (x < c') = true := by simpa using q7 | have q7n : decide (x < c') = false := by simpa using q7 | skip
                            clear hb HNear hrun2 huL' HL' hfarN HBS HX HGN HTX hOR3 hown3 hF3 hFlt3 HK3 hFltK HCS HCO hno1' hrun hfst huL HN2 hook2 far2 HE HMB HD HOF hN hxc
                            go_wp2_with fail
                            go_meet
                            first | exact ⟨rfl, ⟨true, rfl, ⟨fun _ => HB.out, fun _ => rfl⟩⟩, rfl⟩ | exact ⟨rfl, ⟨false, rfl, ⟨fun h => (by cases h), fun h => absurd h HB.out⟩⟩, rfl⟩
                        case rest =>
                          obtain ⟨hz1, ⟨t, hz2, hz4⟩, hz3⟩ := hcut
                          subst hz1
                          subst hz2
                          subst hz3
                          have HT4 := hide hz4
                          clear hz4
                          cases t
                          · go_wp2_with fail
                            go_roundg (NL1.length - (i + 1))
                            case measure => omega
                            case rel => exact ⟨i + 1, K' ++ [x], by go_num, by omega, rfl, HK3.out, HCO.out.resolve_right (fun h => by have := HT4.out.2 h; first | cases this | simp at this), hOR3.drewN _, hFlt3.drewN _, hown3.drewN _, hF3.drewN _⟩
                          · go_wp2_with fail
                            go_quiet (fail)
                            go_wp2_with fail
                            go_roundg (NL1.length - (i + 1))
                            case measure => omega
                            case rel => exact ⟨i + 1, K' ++ [x], by go_num, by omega, rfl, HK3.out, HCS.out.resolve_right (fun h => h (HT4.out.1 (by simp))), hOR3.drewN _, hFlt3.drewN _, hown3.drewN _, hF3.drewN _⟩
                · have HTX := hide htx
                  rw [htx] at tT
                  clear htx
                  go_wp2_with fail
                  go_roundg (NL1.length - (i + 1))
                  case measure => omega
                  case rel =>
                    refine ⟨i + 1, K', by go_num, by omega, rfl, ?_, HBS.out, hOR', hFlt.skip, hown', hF'⟩
                    rw [take_next hlt, List.filter_append, ← HK'.out, HX.out]
                    simp [HTX.out]
              · have hfin := hFlt.fin (by omega)
                have hKall : K' = NL1.filter (fun x => !inL L' x) := by
                  have := HK'.out
                  rwa [List.take_of_length_le (by omega)] at this
                have hKept : Kept y.n adj L' K' := by rw [hKall]; exact HNear.out.kept huL'.out
                have HKept := hide hKept
                have hK'n : K'.length ≤ y.n := nodup_le hKept.nd (fun x hx => ((hKept.mem x).1 hx).1)
                obtain ⟨A4, n4, c4, hkv, hn4⟩ : ∃ A4 n4 c4, _ = Value.slice A4 n4 c4 ∧ n4 ≤ y.n := by
                  obtain ⟨A4, c4, h, _⟩ := hfin.1.shape
                  exact ⟨A4, _, c4, h, by simpa [zl] using hK'n⟩
                have hO6 := hOR'.setN ok _ K' hfin.1 (fun k hk => hfarN.out k (by rw [← hfin.2]; exact hk))
                have hF6 := hF'.setCell (p := ⟨y.b, 4, none⟩) (Or.inl (Or.inl (Or.inl rfl))) (Value.slice A4 n4 c4)
                have hown6 := hown'.setOther (a := ⟨y.b, 4, none⟩) (fun e => (far2.out _ e).1 (Or.inl rfl)) (Value.slice A4 n4 c4)
                have hnok6 : Hid (NOk w nv (Value.slice A4 n4 c4)) := hide (fun g hg => hno1'.out g (by rw [← hfin.2, hkv]; exact hg))
                have hfar6 : Hid (∀ k, (Value.slice A2 n2 cap2).ownBlock = some k → ¬ Five y k ∧ (Value.slice A4 n4 c4).ownBlock ≠ some k) := hide (fun k hk => ⟨(far2.out k hk).1, by rw [← hkv, hfin.2]; exact (far2.out k hk).2⟩)
                have s4 := hOR'.s4
                have f4 := hOR'.str.frozen 4
                rw [hkv] at hO6
                clear hfin hKall hKept hFlt hOR' hF' hown' HK'
                subst hkv
                have s6 := hO6.s6
                have f6 := hO6.str.frozen 6
                have hO7 := hO6.work ok (wrap64 (wk1 + (n4 : Int)))
                have hF7 := hF6.setCell (p := ⟨y.b, 6, none⟩) (Or.inl (Or.inl (Or.inl rfl))) (.int .i64 (wrap64 (wk1 + (n4 : Int))))
                have hown7 := hown6.setOther (a := ⟨y.b, 6, none⟩) (fun e => (far2.out _ e).1 (Or.inl rfl)) (.int .i64 (wrap64 (wk1 + (n4 : Int))))
                have HEX : Hid (∃ x, x < y.n ∧ x ∉ L') := hide (exists_out hrun2.out.nd (by
                  have e1 := congrArg List.length HL'.out
                  have e2 := HN2.out
                  have e3 := HE.out
                  simp only [List.length_append, List.length_singleton] at e1
                  omega))
                have HST : Hid ((∃ c : Nat, _ = Value.int .i64 c ∧ Next y.n adj L' c) ∨ (_ = Value.int .i64 (-1) ∧ ∀ x, ¬ Cand y.n adj L' x)) := hide (by
                  rcases HBS.out with ⟨h1, h2⟩ | ⟨c, h1, h2, _, _, _, h3⟩
                  · right
                    refine ⟨h1, fun x hx => ?_⟩
                    have := (HKept.out.mem x).2 hx
                    rw [h2] at this
                    simp at this
                  · left
                    exact ⟨c, h2, Or.inl ⟨(HKept.out.mem c).1 h1, fun x hx hne => h3 x ((HKept.out.mem x).2 hx) hne⟩⟩)
                clear hO6 hF6 hown6
                clear HBS
                go_wp2_with fail
                clear s4 f4 s6 f6
                generalize (World.setCell _ ⟨y.b, 6, none⟩ (.int .i64 (wrap64 (wk1 + (n4 : Int))))) = W7 at hO7 hF7 hown7 ⊢
                go_loopg [10, 11] (y.n - f) (fun g nx fi wr => W7 = wr ∧ ∃ f' : Nat, fi = .int .i64 f' ∧ f' ≤ y.n ∧ g = y.n - f' ∧ ((∃ c : Nat, nx = .int .i64 c ∧ Next y.n adj L' c ∧ ∀ x, x < f' → x ∈ L' ∨ x = c) ∨ (nx = .int .i64 (-1) ∧ (∀ x, ¬ Cand y.n adj L' x) ∧ ∀ x, x < f' → x ∈ L')))
                case atStart =>
                  have hall : ∀ x, x < f → x ∈ L' := fun x hx => by
                    rw [← HL'.out]
                    rcases hfst.out x hx with h | h
                    · simp [h]
                    · simp [h]
                  refine ⟨rfl, f, rfl, hfn, rfl, ?_⟩
                  rcases HST.out with ⟨c, h1, h2⟩ | ⟨h1, h2⟩
                  · exact Or.inl ⟨c, h1, h2, fun x hx => Or.inl (hall x hx)⟩
                  · exact Or.inr ⟨h1, h2, hall⟩
                case round =>
                  obtain ⟨rfl, f', rfl, hf', rfl, hcase⟩ := hrel
                  rcases hcase with ⟨c, rfl, hnext, hall⟩ | ⟨rfl, hno, hall⟩
                  · have HNX := hide hnext
                    have HALL := hide hall
                    clear hnext hall HST
                    have q0 : decide ((c : Int) < 0) = false := by simp
                    go_wp2_with fail
                    go_roundg (y.n - pre.length - L'.length)
                    case measure =>
                      have e1 := congrArg List.length HL'.out
                      simp only [List.length_append, List.length_singleton] at e1
                      omega
                    case rel =>
                      refine ⟨L', c, f', _, K', rfl, rfl, rfl, HNX.out.lt.1, HNX.out.lt.2, Or.inr ⟨hrun2.out, HNX.out⟩, HALL.out, hf', hrun2.out.nd, ?_, ⟨_, hO7⟩, HKept.out, hown7, hfar6.out, hnok6.out, hook2.out, hF7⟩
                      have e1 := congrArg List.length HL'.out
                      have e2 := HN2.out
                      have e3 := HE.out
                      simp only [List.length_append, List.length_singleton] at e1
                      omega
                  · have hf2 : f' < y.n := by
                      obtain ⟨x, hx1, hx2⟩ := HEX.out
                      rcases Nat.lt_or_ge f' y.n with h | h
                      · exact h
                      · exact absurd (hall x (by omega)) hx2
                    have HNO := hide hno
                    have HALL := hide hall
                    clear hno hall HST
                    have t1 := hO7.s1
                    have tT := hO7.rT.cell (i := f') (by omega)
                    cases htf : inL L' f'
                    · have HTF := hide htf
                      rw [htf] at tT
                      clear htf
                      go_wp2_with fail
                      go_roundg (y.n - (f' + 1))
                      case measure => omega
                      case rel =>
                        refine ⟨rfl, f' + 1, by go_num, by omega, rfl, Or.inl ⟨f', rfl, Or.inr ⟨HNO.out, hf2, inL_false.1 HTF.out, HALL.out⟩, fun x hx => ?_⟩⟩
                        by_cases e : x = f'
                        · exact Or.inr e
                        · exact Or.inl (HALL.out x (by omega))
                    · have HTF := hide htf
                      rw [htf] at tT
                      clear htf
                      go_wp2_with fail
                      go_roundg (y.n - (f' + 1))
                      case measure => omega
                      case rel =>
                        refine ⟨rfl, f' + 1, by go_num, by omega, rfl, Or.inr ⟨rfl, HNO.out, fun x hx => ?_⟩⟩
                        by_cases e : x = f'
                        · rw [e]; exact inL_iff.1 HTF.out
                        · exact HALL.out x (by omega)
end Go.Proofs.Qxb6605238a
