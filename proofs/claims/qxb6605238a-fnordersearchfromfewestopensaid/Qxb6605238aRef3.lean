import Derived.Test.Qxb6605238aRef2
namespace Go.Proofs.Qxb6605238a
open Go.RowKit Go.Deep
set_option linter.unusedVariables false
set_option linter.unusedSimpArgs false

variable {n : Nat} {adj : Nat → List Nat}

def z0 : Nat → Int := fun _ => 0
def dg (adj : Nat → List Nat) (k : Nat) : Nat → Int := fun i => if i < k then ((adj i).length : Int) else 0
theorem dg_next {k : Nat} (i : Nat) : up (dg adj k) k ((adj k).length : Int) i = dg adj (k + 1) i := by
  unfold up dg
  by_cases e : i = k
  · subst e; rw [if_pos rfl, if_pos (by omega)]
  · rw [if_neg e]
    by_cases h : i < k
    · rw [if_pos h, if_pos (by omega)]
    · rw [if_neg h, if_neg (by omega)]

theorem Nb.getB {w : World} {B G : Nat} (h : Nb w B G n adj) {v : Nat} (hv : v < n) : ∃ A c, ∀ wr, Below w.heap.size w wr → (wr.cell? ⟨G, v, none⟩ = some (.slice A (adj v).length c) ∧ ∀ i (hi : i < (adj v).length), ∃ b off, A = some ⟨b, off, none⟩ ∧ wr.cell? ⟨b, off + i, none⟩ = some (.int .i64 ((adj v)[i] : Int))) := by
  obtain ⟨A, c, h1, h2⟩ := h.get hv
  refine ⟨A, c, fun wr hb => ⟨by rw [hb.cell (cell_lt h1)]; exact h1, fun i hi => ?_⟩⟩
  obtain ⟨b, off, h3, h4⟩ := h2 i hi
  exact ⟨b, off, h3, by rw [hb.cell (cell_lt h4)]; exact h4⟩

theorem OwnI.base {w : World} {b b' : Nat} {v : Value} {l : List Int} (h : OwnI w b v l) (hb : b' ≤ b) : OwnI w b' v l := by
  rcases h.2 with h1 | ⟨g, cap, cur, h1, h2, h3⟩
  · exact ⟨h.1, Or.inl h1⟩
  · exact ⟨h.1, Or.inr ⟨g, cap, cur, h1, by omega, h3⟩⟩

/-- The reference's main loop. -/
structure RR (w wr : World) (n : Nat) (adj : Nat → List Nat) (start steps : Nat) (L : List Nat) (u : Nat) (ov : Value) : Prop where
  un : u < n
  uL : u ∉ L
  run : (L = [] ∧ u = start) ∨ (Run n adj start L ∧ Next n adj L u)
  nd : L.Nodup
  len : L.length + 1 ≤ steps
  rs : RS w wr n adj (inL L) (rsS n adj L z0) ov L

set_option maxRecDepth 100000 in
set_option maxHeartbeats 4000000 in
theorem ref_any {B G0 : Nat} (G : Gr n adj) (w : World) (start steps : Nat) (hst : start < n) (hs1 : 0 < steps) (hs2 : steps ≤ n) (hn : n ≤ 4096) (hN : Nb w B G0 n adj) (hd : ∀ x, x < n → (adj x).length ≤ 65536) :
    Calls Try.prog 10 #[.slice (some ⟨G0, 0, none⟩) n n, .int .i64 start, .int .i64 steps] w fun e w' => ∃ ov L, e = .returned ov ∧ OwnI w' w.heap.size ov (zl L) ∧ Run n adj start L ∧ L.length = steps ∧ Below w.heap.size w w' := by
  have HD := hide hd
  clear hd
  have hFB : ∀ wr, Below w.heap.size w wr → Frm (fun k => w.heap.size ≤ k) w wr := fun wr h => ⟨h.os, h.tape, h.output, h.size, fun k hk _ => h.block k hk⟩
  have hNB : ∀ wr, Below w.heap.size w wr → Nb wr B G0 n adj := by
    intro wr h
    refine ⟨hN.lt, fun v hv => ?_⟩
    obtain ⟨A, c, h1, h2, h3⟩ := hN.at_ v hv
    exact ⟨A, c, by rw [h.cell (cell_lt h1)]; exact h1, h2.below h, h3⟩
  have HNB := hide hNB
  clear hNB hFB
  have hmk1 := run_make_row' (P := Try.prog) 23 4 (.bool false) 1 Try.underlying23 info4 rfl .i64 .i64 n (by omega) (by omega)
  have hmk2 := run_make_row' (P := Try.prog) 24 3 (.int .i64 0) 8 Try.underlying24 info3 rfl .i64 .i64 n (by omega) (by omega)
  have hmk3 := run_make_empty steps (by omega)
  go_enter Try.func10, Try.ntmps10
  go_wp2_with fail
  clear hmk1 hmk2
  have hbel0 : Below w.heap.size w ((w.alloc (.cells (madeCells #[.bool false] n) 4)).alloc (.cells (madeCells #[.int .i64 0] n) 3)) := ((Below.refl _ _).alloc (Nat.le_refl _) _).alloc (by simp) _
  have hI0 : ((w.alloc (.cells (madeCells #[.bool false] n) 4)).alloc (.cells (madeCells #[.int .i64 0] n) 3)).rowIs w.heap.size 4 n (fun _ => .bool false) := (World.rowIs_made w _ n 4).alloc _
  have hL0 : ((w.alloc (.cells (madeCells #[.bool false] n) 4)).alloc (.cells (madeCells #[.int .i64 0] n) 3)).rowIs (w.heap.size + 1) 3 n (fun _ => .int .i64 0) := by
    have := World.rowIs_made (w.alloc (.cells (madeCells #[.bool false] n) 4)) (.int .i64 0) n 3
    simpa using this
  have hsz0 : ((w.alloc (.cells (madeCells #[.bool false] n) 4)).alloc (.cells (madeCells #[.int .i64 0] n) 3)).heap.size = w.heap.size + 2 := by simp
  go_loopg [10] n (fun g i wr => ∃ k : Nat, k ≤ n ∧ g = n - k ∧ i = .int .i64 k ∧ Below w.heap.size w wr ∧ wr.rowIs w.heap.size 4 n (fun _ => .bool false) ∧ wr.rowIs (w.heap.size + 1) 3 n (fun i => .int .i64 (dg adj k i)) ∧ Hid (wr.heap.size = w.heap.size + 2))
  case atStart => exact ⟨0, Nat.zero_le _, rfl, rfl, hbel0, hI0, hL0.congr (fun i _ => by simp [dg]), hide hsz0⟩
  case round =>
    obtain ⟨k, hk, rfl, rfl, hbel, hI, hL, hsz⟩ := hrel
    clear hbel0 hI0 hL0 hsz0
    by_cases hlt : k < n
    · obtain ⟨A, c, g0, _⟩ := (HNB.out _ hbel).get hlt
      have hdk := HD.out k hlt
      have lc := hL.cell hlt
      have lf := hL.frozen k
      go_wp2_with fail
      go_roundg (n - (k + 1))
      case measure => omega
      case rel => exact ⟨k + 1, by omega, rfl, by go_num, hbel.setCell (by show w.heap.size ≤ w.heap.size + 1; omega) _, hI.setOther (by show w.heap.size ≠ w.heap.size + 1; omega) _, (up_row (e := Value.int .i64) hL k ((adj k).length : Int)).congr (fun i _ => by rw [dg_next]), hide (by have := hsz.out; simpa [World.setCell] using this)⟩
    · have hkk : n = k := by omega
      subst hkk
      have hRR : RR w _ n adj start steps [] start (.slice (some ⟨w.heap.size + 2, 0, none⟩) 0 steps) := ⟨hst, by simp, Or.inl ⟨rfl, rfl⟩, List.nodup_nil, by simp; omega, ⟨hbel.alloc hbel.size (.cells (madeCells #[.int .i64 0] steps) 3), (hI.congr (fun i _ => by simp [inL])).alloc _, (hL.congr (fun i hi => by simp [dg, rsS, rst_nil, hi])).alloc _, by
        have := ownI_made _ (w.heap.size + 2) steps (Nat.le_of_eq hsz.out.symm) (by omega)
        rw [hsz.out] at this
        exact this⟩⟩
      have hsz' := hsz.out
      clear hI hL hbel hsz
      go_wp2_with fail
      clear hmk3
      go_loopg [11, 12] steps (fun g ov nx wr => ∃ (L : List Nat) (u : Nat), nx = .int .i64 u ∧ g = steps - L.length ∧ RR w wr n adj start steps L u ov)
      case atStart => exact ⟨[], start, rfl, rfl, hRR⟩
      case round =>
        obtain ⟨L, u, rfl, rfl, hR⟩ := hrel
        clear hRR hsz'
        obtain ⟨A, m, c, hov, hm⟩ : ∃ A m c, _ = Value.slice A m c ∧ m = L.length := by
          obtain ⟨A, c, h, _⟩ := hR.rs.own.shape
          exact ⟨A, _, c, h, by simp [zl]⟩
        have HM := hide hm
        have hlen := hR.len
        have q0 : decide ((m : Int) < (steps : Int)) = true := by simp; omega
        have hmb : m < steps := by omega
        clear hm
        have hRS := hR.rs
        have hun := hR.un
        have HUL := hide hR.uL
        have HRUN := hide hR.run
        have HND := hide hR.nd
        rw [hov] at hRS
        clear hR
        subst hov
        have iC := hRS.rI.cell hun
        have iF := hRS.rI.frozen u
        have hRS1 := hRS.setI u
        have hdu := HD.out u hun
        obtain ⟨A2, c2, hA2⟩ := hN.getB hun
        have HA2 := hide hA2
        clear hA2
        have g2 := (HA2.out _ hRS1.below).1
        go_wp2_with fail
        clear iC iF g2
        have hRS2 : RS w _ n adj (inL (L ++ [u])) (rsk adj (rsS n adj L z0) u 0) (.slice A m c) L := hRS1.congr (fun i _ => by rw [up_inL]) (fun i _ => by simp [rsk])
        clear hRS1
        go_loopg [62] (adj u).length (fun g i wr => ∃ k : Nat, k ≤ (adj u).length ∧ g = (adj u).length - k ∧ i = .int .i64 k ∧ RS w wr n adj (inL (L ++ [u])) (rsk adj (rsS n adj L z0) u k) (.slice A m c) L)
        case atStart => exact ⟨0, Nat.zero_le _, rfl, rfl, hRS2⟩
        case round =>
          obtain ⟨k, hk, rfl, rfl, hRS3⟩ := hrel
          clear hRS2 hRS
          by_cases hlt2 : k < (adj u).length
          · obtain ⟨gb, off, rfl, hc1⟩ := (HA2.out _ hRS3.below).2 k hlt2
            obtain ⟨x, hx⟩ : ∃ x, (adj u)[k] = x := ⟨_, rfl⟩
            have hxn : x < n := by rw [← hx]; exact G.rng u hun _ (List.getElem_mem hlt2)
            rw [hx] at hc1
            have hrx := rsk_at (rs := rsS n adj L z0) (G.nd u hun) hlt2 hx
            have lc := hRS3.rL.cell hxn
            have lf := hRS3.rL.frozen x
            rw [hrx] at lc
            have hb0 : 0 ≤ rsS n adj L z0 x ∧ rsS n adj L z0 x ≤ 65536 := by
              unfold rsS
              rw [if_pos hxn]
              have := rst_le (adj := adj) (L := L) x
              have := HD.out x hxn
              omega
            have hRS4 := hRS3.setL x (rsS n adj L z0 x - 1)
            have HNXT : Hid (∀ i, up (rsk adj (rsS n adj L z0) u k) x (rsS n adj L z0 x - 1) i = rsk adj (rsS n adj L z0) u (k + 1) i) := hide (rsk_next (G.nd u hun) hlt2 hx)
            clear hx hrx
            generalize rsS n adj L z0 x = zx at lc hb0 hRS4 HNXT
            go_wp2_with fail
            go_roundg ((adj u).length - (k + 1))
            case measure => omega
            case rel => exact ⟨k + 1, by omega, rfl, by go_num, hRS4.congr (fun _ _ => rfl) (fun i _ => HNXT.out i)⟩
          · have hkk : k = (adj u).length := by omega
            have hRS4 : RS w _ n adj (inL (L ++ [u])) (rsS n adj (L ++ [u]) z0) (.slice A m c) L := hRS3.congr (fun _ _ => rfl) (fun i _ => by rw [hkk]; exact sem_rs G hun HUL.out i)
            clear hRS3 hkk
            have hsz4 := hRS4.below.size
            have hsz5 := hRS4.rL.lt
            have HML : Hid ((zl L).length = L.length) := hide (by simp [zl])
            go_wp2_with (at_builtin; refine wpList_appI _ (.tmp 73) (.tmp 75) (u : Int) _ (w.heap.size + 2) (by rw [HML.out, ← HM.out]; omega) _ _ rfl rfl rfl rfl (hRS4.alloc _).own ?_ ?_ ?_)
            · rw [World.cell?_alloc_at _ _ _ _ (by simp)]; rfl
            · simp; omega
            · intro v2 w2 ho2 hg2
              have hRS5 := (hRS4.alloc _).app hg2 ho2
              clear ho2 hg2 hRS4
              have hrun2 : Hid (Run n adj start (L ++ [u])) := hide (by
                rcases HRUN.out with ⟨h1, h2⟩ | ⟨h1, h2⟩
                · subst h1; subst h2
                  simpa using run_one hst
                · exact h1.snoc h2)
              obtain ⟨A3, m3, c3, hv2, hm3⟩ : ∃ A m c, v2 = Value.slice A m c ∧ m = L.length + 1 := by
                obtain ⟨A, c, h, _⟩ := hRS5.own.shape
                exact ⟨A, _, c, h, by simp [zl]⟩
              have HM3 := hide hm3
              have hm3b : m3 ≤ steps := by omega
              subst hv2
              generalize hL' : L ++ [u] = L' at *
              have HL' := hide hL'
              clear hL' hm3
              by_cases hend : m3 = steps
              · have q1 : ((m3 : Int) == (steps : Int)) = true := by rw [hend]; simp
                have HE := hide hend
                clear hend
                go_wp2_with fail
                go_ret
                refine ⟨_, L', rfl, ?_, hrun2.out, ?_, hRS5.below⟩
                · exact hRS5.own.base (by omega)
                · have e1 := congrArg List.length HL'.out
                  have e2 := HM3.out
                  have e3 := HE.out
                  simp only [List.length_append, List.length_singleton] at e1
                  omega
              · have q1 : ((m3 : Int) == (steps : Int)) = false := by simp; omega
                have HE := hide hend
                clear hend
                go_wp2_with fail
                refine (openCount_any w2 hn (HNB.out _ hRS5.below) hRS5.rI G.rng HD.out).mono ?_
                rintro e w3 ⟨⟨bf, rfl, hbf⟩, hw⟩
                rw [← hw]
                clear hw w3
                go_wp2_with fail
                go_loopg [16, 17, 18, 19, 20] n (fun g nx a17 a18 a19 i wr => w2 = wr ∧ ∃ k : Nat, k ≤ n ∧ g = n - k ∧ i = .int .i64 k ∧ BR n adj L' (bf : Int) k nx a17 a18 a19)
                case atStart => exact ⟨rfl, 0, Nat.zero_le _, rfl, rfl, Or.inl ⟨rfl, fun x hx => absurd hx (Nat.not_lt_zero _)⟩⟩
                case round =>
                  obtain ⟨rfl, k, hk, rfl, rfl, hBR⟩ := hrel
                  have HBR := hide hBR
                  clear hBR
                  by_cases hlt3 : k < n
                  · have iC := hRS5.rI.cell hlt3
                    cases htk : inL L' k
                    · have HTK := hide htk
                      rw [htk] at iC
                      clear htk
                      obtain ⟨A6, c6, hA6⟩ := hN.getB hlt3
                      have g6 := (hA6 _ hRS5.below).1
                      have HA6 := hide (hA6 _ hRS5.below).2
                      clear hA6
                      have hdk := HD.out k hlt3
                      go_wp2_with fail
                      go_loopg [21, 22, 98] (adj k).length (fun g t cc i wr => w2 = wr ∧ ∃ j : Nat, j ≤ (adj k).length ∧ g = (adj k).length - j ∧ i = .int .i64 j ∧ t = .int .i64 (cI adj L' k j) ∧ cc = .int .i64 (cC adj L' k j))
                      case atStart => exact ⟨rfl, 0, Nat.zero_le _, rfl, rfl, by simp [cI], by simp [cC]⟩
                      case round =>
                        obtain ⟨rfl, j, hj, rfl, rfl, rfl, rfl⟩ := hrel
                        have hi1 := cI_le (adj := adj) (L := L') (u := k) (j := j)
                        have hi2 := cC_le (adj := adj) (L := L') (u := k) (j := j)
                        by_cases hjl : j < (adj k).length
                        · obtain ⟨gb, off, rfl, hc1⟩ := HA6.out j hjl
                          obtain ⟨x, hx⟩ : ∃ x, (adj k)[j] = x := ⟨_, rfl⟩
                          have hxn : x < n := by rw [← hx]; exact G.rng k hlt3 _ (List.getElem_mem hjl)
                          rw [hx] at hc1
                          have N1 := hide (cI_next (L := L') hjl hx)
                          have N2 := hide (cC_next (L := L') hjl hx)
                          clear hx
                          have iX := hRS5.rI.cell hxn
                          have lX := hRS5.rL.cell hxn
                          rw [show rsS n adj L' z0 x = (rst adj L' x : Int) by unfold rsS; rw [if_pos hxn]] at lX
                          cases htx : inL L' x
                          · have HTX := hide htx
                            rw [htx] at iX
                            clear htx
                            go_wp2_with fail
                            go_roundg ((adj k).length - (j + 1))
                            case measure => omega
                            case rel => exact ⟨rfl, j + 1, by omega, rfl, by go_num, by rw [N1.out, HTX.out]; simp, by rw [N2.out, HTX.out]; simp⟩
                          · have HTX := hide htx
                            rw [htx] at iX
                            clear htx
                            by_cases h1 : rst adj L' x = 1
                            · have H1 := hide h1
                              have q2 : ((rst adj L' x : Int) == 1) = true := by rw [h1]; rfl
                              clear h1
                              go_wp2_with fail
                              go_roundg ((adj k).length - (j + 1))
                              case measure => omega
                              case rel => exact ⟨rfl, j + 1, by omega, rfl, by go_num, by rw [N1.out, HTX.out]; go_num, by rw [N2.out, HTX.out, H1.out]; go_num⟩
                            · have H1 := hide h1
                              have q2 : ((rst adj L' x : Int) == 1) = false := by simp; omega
                              clear h1
                              go_wp2_with fail
                              go_roundg ((adj k).length - (j + 1))
                              case measure => omega
                              case rel => exact ⟨rfl, j + 1, by omega, rfl, by go_num, by rw [N1.out, HTX.out]; go_num, by rw [N2.out]; simp [H1.out]⟩
                        · have hjj : j = (adj k).length := by omega
                          have hkL : k ∉ L' := inL_false.1 HTK.out
                          have HALL := hide (cI_all (adj := adj) (L := L') (u := k))
                          have HCC := hide (cC_all G hlt3 hkL)
                          have HPOS := hide (cI_pos (adj := adj) (L := L') hlt3 hkL)
                          rw [hjj]
                          rw [hjj] at hi1 hi2
                          clear hjj hkL hjl hj
                          obtain ⟨t0, ht0⟩ : ∃ t0, cI adj L' k (adj k).length = t0 := ⟨_, rfl⟩
                          obtain ⟨cc, hcc⟩ : ∃ cc, cC adj L' k (adj k).length = cc := ⟨_, rfl⟩
                          rw [ht0] at HALL HPOS hi1 ⊢
                          rw [hcc] at HCC hi2 ⊢
                          clear ht0 hcc
                          by_cases hz : t0 = 0
                          · have q3 : ((t0 : Int) == 0) = true := by rw [hz]; rfl
                            have HZ := hide hz
                            clear hz
                            go_wp2_with fail
                            go_roundg (n - (k + 1))
                            case measure => omega
                            case rel => exact ⟨rfl, k + 1, by omega, rfl, by go_num, HBR.out.skip (fun h => by have h1 := HPOS.out.2 h; have h2 := HZ.out; omega)⟩
                          · have q3 : ((t0 : Int) == 0) = false := by simp; omega
                            have HCAND : Hid (Cand n adj L' k) := hide (HPOS.out.1 (by omega))
                            have HTN : Hid (tn adj L' k = (t0 : Int)) := hide (by unfold tn; have := HALL.out; omega)
                            have HRR : Hid ((rst adj L' k : Int) = ((adj k).length : Int) - (t0 : Int)) := hide (by have := HALL.out; omega)
                            have HSC : Hid ((bf : Int) + sc adj L' k = (bf : Int) - (cc : Int) + (if 0 < rst adj L' k then 1 else 0)) := hide (by unfold sc; rw [← HCC.out]; omega)
                            clear hz HPOS HALL HCC
                            go_upto_if 129 with fail
                            go_cut [26] from 84 to 162 (fun s26 wx => s26 = .int .i64 ((bf : Int) + sc adj L' k) ∧ w2 = wx)
                            case first =>
                              go_wp2_with fail
                              all_goals
                                rename_i hh
                                go_meet
                                refine ⟨?_, rfl⟩
                                rw [HSC.out]
                                have hrr := HRR.out
                                first
                                | (rw [if_pos (by omega)])
                                | (rw [if_neg (by omega), Int.add_zero])
                            case rest =>
                              obtain ⟨hz1, hz2⟩ := hcut
                              subst hz1
                              subst hz2
                              obtain ⟨O, hO⟩ : ∃ O, (bf : Int) + sc adj L' k = O := ⟨_, rfl⟩
                              have HO := hide hO
                              rw [hO]
                              clear hO HSC
                              obtain ⟨Rr, hRr⟩ : ∃ Rr, ((adj k).length : Int) - (t0 : Int) = Rr := ⟨_, rfl⟩
                              rw [hRr] at HRR ⊢
                              clear hRr
                              rcases HBR.out with ⟨hnx, hnone⟩ | ⟨c', hcC, hck, hnx, ha, hb, hc, hbest⟩
                              · subst hnx
                                have HNONE := hide hnone
                                clear hnone
                                go_wp2_with fail
                                go_roundg (n - (k + 1))
                                case measure => omega
                                case rel =>
                                  refine ⟨rfl, k + 1, by omega, rfl, by go_num, ?_⟩
                                  rw [← HO.out, ← HTN.out, ← HRR.out]
                                  exact BR.first HNONE.out HCAND.out
                              · subst hnx
                                subst ha
                                subst hb
                                subst hc
                                have HC' := hide hcC
                                have HBEST := hide hbest
                                have hiff := bt3_iff (adj := adj) (L := L') (bf := (bf : Int)) hck
                                rw [HO.out, HTN.out, HRR.out] at hiff
                                have HNEW : Hid (bt3 O (t0 : Int) Rr ((bf : Int) + sc adj L' c') (tn adj L' c') (rst adj L' c' : Int) → BR n adj L' (bf : Int) (k + 1) (.int .i64 (k : Int)) (.int .i64 O) (.int .i64 (t0 : Int)) (.int .i64 Rr)) := hide (fun h => by
                                  have := BR.newer (bf := (bf : Int)) HC'.out HBEST.out HCAND.out (hiff.2 h)
                                  rwa [HO.out, HTN.out, HRR.out] at this)
                                have HOLD : Hid (¬ bt3 O (t0 : Int) Rr ((bf : Int) + sc adj L' c') (tn adj L' c') (rst adj L' c' : Int) → BR n adj L' (bf : Int) (k + 1) (.int .i64 (c' : Int)) (.int .i64 ((bf : Int) + sc adj L' c')) (.int .i64 (tn adj L' c')) (.int .i64 (rst adj L' c' : Int))) := hide (fun h => BR.older HC'.out hck HBEST.out (fun h2 => h (hiff.1 h2)))
                                clear hiff hcC hbest HC' HBEST HO HTN HRR
                                generalize (bf : Int) + sc adj L' c' = O' at HNEW HOLD ⊢
                                generalize tn adj L' c' = T' at HNEW HOLD ⊢
                                generalize rst adj L' c' = r' at HNEW HOLD ⊢
                                have q0 : decide ((c' : Int) < 0) = false := by simp
                                rcases bt3_facts O (t0 : Int) Rr O' T' (r' : Int) with ⟨hb, p1⟩ | ⟨hb, p1, p2, p3⟩ | ⟨hb, p1, p2, p3, p4, p5⟩ | ⟨hb, p1, p2⟩ | ⟨hb, p1, p2, p3, p4⟩ | ⟨hb, p1, p2, p3, p4, p5⟩
                                all_goals
                                  have HB := hide hb
                                  clear hb
                                  go_wp2_with fail
                                  go_roundg (n - (k + 1))
                                  case measure => omega
                                  case rel => first | exact ⟨rfl, k + 1, by omega, rfl, by go_num, HNEW.out HB.out⟩ | exact ⟨rfl, k + 1, by omega, rfl, by go_num, HOLD.out HB.out⟩
                    · have HTK := hide htk
                      rw [htk] at iC
                      clear htk
                      go_wp2_with fail
                      go_roundg (n - (k + 1))
                      case measure => omega
                      case rel => exact ⟨rfl, k + 1, by omega, rfl, by go_num, HBR.out.skip (fun h => h.2.2 (inL_iff.1 HTK.out))⟩
                  · have hkn : n = k := by omega
                    have HBR' := HBR.out
                    rw [← hkn] at HBR'
                    have HBEST := hide HBR'.best
                    clear HBR HBR' hkn
                    have HLEN : Hid (L'.length + 1 ≤ steps ∧ L'.length = L.length + 1) := hide (by
                      have e1 := congrArg List.length HL'.out
                      have e2 := HM3.out
                      have e3 := HE.out
                      simp only [List.length_append, List.length_singleton] at e1
                      omega)
                    have HEX := hide (exists_out (n := n) hrun2.out.nd (by have := HLEN.out; omega))
                    rcases HBEST.out with ⟨hnx, hno⟩ | ⟨c', hnx, hnext⟩
                    · subst hnx
                      have HNO := hide hno
                      clear hno HBEST
                      go_wp2_with fail
                      go_loopg [16, 27] n (fun g nx i wr => w2 = wr ∧ ∃ q : Nat, q ≤ n ∧ g = n - q ∧ i = .int .i64 q ∧ nx = .int .i64 (-1) ∧ ∀ x, x < q → x ∈ L')
                      case atStart => exact ⟨rfl, 0, Nat.zero_le _, rfl, rfl, rfl, fun x hx => absurd hx (Nat.not_lt_zero _)⟩
                      case round =>
                        obtain ⟨rfl, q, hq, rfl, rfl, rfl, hall⟩ := hrel
                        have HALL := hide hall
                        have hqn : q < n := by
                          obtain ⟨x, hx1, hx2⟩ := HEX.out
                          rcases Nat.lt_or_ge q n with h | h
                          · exact h
                          · exact absurd (hall x (by omega)) hx2
                        clear hall
                        have iQ := hRS5.rI.cell hqn
                        cases htq : inL L' q
                        · have HTQ := hide htq
                          rw [htq] at iQ
                          clear htq
                          have q9 : decide ((q : Int) < 0) = false := by simp
                          go_wp2_with fail
                          go_roundg (steps - L'.length)
                          case measure =>
                            have := HLEN.out
                            omega
                          case rel =>
                            have hnx : Next n adj L' q := Or.inr ⟨HNO.out, hqn, inL_false.1 HTQ.out, HALL.out⟩
                            exact ⟨L', q, rfl, rfl, hqn, inL_false.1 HTQ.out, Or.inr ⟨hrun2.out, hnx⟩, hrun2.out.nd, HLEN.out.1, hRS5⟩
                        · have HTQ := hide htq
                          rw [htq] at iQ
                          clear htq
                          go_wp2_with fail
                          go_roundg (n - (q + 1))
                          case measure => omega
                          case rel =>
                            refine ⟨rfl, q + 1, by omega, rfl, by go_num, rfl, fun x hx => ?_⟩
                            by_cases e : x = q
                            · rw [e]; exact inL_iff.1 HTQ.out
                            · exact HALL.out x (by omega)
                    · subst hnx
                      have HNX := hide hnext
                      clear hnext HBEST
                      have q9 : decide ((c' : Int) < 0) = false := by simp
                      go_wp2_with fail
                      go_roundg (steps - L'.length)
                      case measure =>
                        have := HLEN.out
                        omega
                      case rel => exact ⟨L', c', rfl, rfl, HNX.out.lt.1, HNX.out.lt.2, Or.inr ⟨hrun2.out, HNX.out⟩, hrun2.out.nd, HLEN.out.1, hRS5⟩
end Go.Proofs.Qxb6605238a
