import Derived.Test.Qxb6605238aDfs
namespace Go.Proofs.Qxb6605238a
open Go.RowKit Go.Deep
set_option linter.unusedVariables false
set_option linter.unusedSimpArgs false

theorem run_make_empty (n : Nat) (hn : n ≤ 1048576) (w : World) :
    (Instr.makeSlice 24 (.int .i64 0) (.int .i64 (n : Int))).run Try.prog w = .ok (.slice (some ⟨w.heap.size, 0, none⟩) 0 n) (w.alloc (.cells (madeCells #[.int .i64 0] n) 3)) := by
  obtain ⟨i, hi, hzz⟩ := Option.map_eq_some_iff.1 info3
  simp only [Prod.mk.injEq] at hzz
  obtain ⟨hz, hs, hb⟩ := hzz
  have hr := run_make (P := Try.prog) w 24 3 i _ Try.underlying24 hi hz .i64 .i64 0 n (by omega) (by omega) (by rw [hb]; omega) (by omega)
  simp only [Int.toNat_natCast, Int.toNat_zero, hs, Nat.mul_one] at hr
  exact hr

theorem ownI_made (w : World) (base n : Nat) (hb : base ≤ w.heap.size) (hn : n ≤ 1048576) : OwnI (w.alloc (.cells (madeCells #[.int .i64 0] n) 3)) base (.slice (some ⟨w.heap.size, 0, none⟩) 0 n) [] := by
  exact World.ownsRow_made w _ n hb (by unfold maxLen; omega) (by rw [size_madeCells, Nat.mul_one])

theorem row_start (w : World) (n : Nat) (hn : 0 < n) : (w.alloc (.cells ((madeCells #[Value.bool false] n).setIfInBounds 0 (.bool true)) 4)).rowIs w.heap.size 4 n (fun i => .bool (start1 i)) := by
  refine ⟨_, blk_alloc_new _ _, by simp [size_madeCells], fun i hi => ?_⟩
  rw [Array.getElem?_setIfInBounds]
  by_cases e : i = 0
  · subst e; simp [size_madeCells, hn, start1]
  · rw [if_neg (fun h => e h.symm)]
    simp [madeCells, hi, start1, e, Nat.mod_one]

theorem sm_start2 (w : World) (n : Nat) (hn : 0 < n) (hn2 : n ≤ 65536) :
    Sm w ((w.alloc (.cells ((madeCells #[Value.bool false] n).setIfInBounds 0 (.bool true)) 4)).alloc (.cells (madeCells #[.int .i64 0] n) 3)) n start1 (.slice (some ⟨w.heap.size + 1, 0, none⟩) 0 n) [] := by
  refine ⟨((Below.refl _ _).alloc (Nat.le_refl _) _).alloc (by simp) _, (row_start w n hn).alloc _, ?_⟩
  have := ownI_made (w.alloc (.cells ((madeCells #[Value.bool false] n).setIfInBounds 0 (.bool true)) 4)) (w.heap.size + 1) n (by simp) (by omega)
  simpa using this

theorem drop_head {q : List Nat} {h : Nat} (hh : h < q.length) : q.drop h = q[h] :: q.drop (h + 1) := List.drop_eq_getElem_cons hh

set_option maxRecDepth 100000 in
set_option maxHeartbeats 1600000 in
theorem bfs_any (b1 o1 c1 m c2 n : Nat) (A2 : Option Addr) (S T : Nat → Nat) (xs : List (Int × Int)) (w : World) (hn : 0 < n) (hn2 : n ≤ 65536) (hm : m ≤ 65536)
    (hS : Cells w (some ⟨b1, o1, none⟩) (n + 1) (fun i => .int .i64 (S i : Int))) (hmono : ∀ i, i < n → S i ≤ S (i + 1)) (hSb : ∀ i, i ≤ n → S i ≤ m)
    (hP : Prs w A2 xs) (hxs : m ≤ xs.length) (hT : ∀ u i, u < n → S u ≤ i → i < S (u + 1) → fa xs i = (T i : Int) ∧ T i < n) :
    Calls Try.prog 16 #[.slice (some ⟨b1, o1, none⟩) ((n + 1 : Nat) : Nat) c1, .slice A2 m c2] w fun e w' => ∃ a : Int, e = .returned (.int .i64 a) ∧ Ans n (Ed n S T) a ∧ Below w.heap.size w w' := by
  have hmk := run_make_row' (P := Try.prog) 23 4 (.bool false) 1 Try.underlying23 info4 rfl .i64 .i64 n (by omega) (by omega)
  have hmk2 := run_make_empty n (by omega)
  have hn1 : (0 : Int) < n := by omega
  have hmd := made0 hn
  have HM := hide hmono
  have HT := hide hT
  clear hmono hT
  have hsm0 := sm_start2 w n hn hn2
  go_enter Try.func16, Try.ntmps16
  go_wp2_with (at_builtin; (refine wpList_appI _ (.tmp 24) (.tmp 25) 0 _ (w.heap.size + 1) (by simp) _ _ rfl rfl rfl rfl (hsm0.alloc _).own ?_ ?_ ?_))
  · rw [World.cell?_alloc_at _ _ _ _ (by simp)]; rfl
  · simp
  · intro v1 w1 ho1 hg1
    have hsm1 := (hsm0.alloc _).app (t := 0) hg1 ho1
    clear hsm0 ho1 hg1 hmk hmk2 hmd
    go_wp2
    go_loopg [7, 8] (2 * n + 1) (fun gk v hd wr => ∃ (r : Nat → Bool) (q : List Nat) (h : Nat), h ≤ q.length ∧ hd = .int .i64 h ∧ Srch n (Ed n S T) r (q.drop h) none1 ∧ Sm w wr n r v q ∧ q.length + unr r n ≤ n ∧ 2 * unr r n + (q.length - h) ≤ gk)
    case atStart =>
      refine ⟨start1, [0], 0, Nat.zero_le _, rfl, srch_start _ hn, by simpa using hsm1, ?_, ?_⟩
      · have := (srch_start (Ed n S T) hn).size; simpa using this
      · have := unr_le start1 n; simp; omega
    case round =>
      obtain ⟨r, q, h, hh, rfl, hsr, hsm, hqn, hgk⟩ := hrel
      obtain ⟨A, cp, rfl, hA, hA0, hle, hcp⟩ := hsm.own.shape
      have HS := hide hsr
      clear hsr hsm1
      simp only [List.length_map] at *
      by_cases hst : h < q.length
      · obtain ⟨g, rfl⟩ := hA (by omega)
        obtain ⟨u, hu⟩ : ∃ u, q[h] = u := ⟨_, rfl⟩
        have hd := drop_head hst
        rw [hu] at hd
        have HS1 := HS.out
        rw [hd] at HS1
        have hun : r u = true ∧ u < n := by
          have := HS1.pend u (by simp)
          exact ⟨this, (HS1.rng u this).1⟩
        obtain ⟨hru, hun⟩ := hun
        have HS2 := hide HS1.take
        have d0 := hsm.own.cell (j := h) (by simpa using hst)
        rw [show iz (q.map (fun u : Nat => (u : Int))) h = (u : Int) by simp [iz, List.getD, hst, hu]] at d0
        obtain ⟨bq, oq, e1, s0⟩ := hS u (by omega)
        cases e1
        obtain ⟨bq, oq, e1, s1⟩ := hS (u + 1) (by omega)
        cases e1
        have t0 : wr.cell? ⟨b1, o1 + u, none⟩ = some (.int .i64 (S u : Int)) := by rw [hsm.below.cell (cell_lt s0)]; exact s0
        have hm1 := HM.out u hun
        have hm2 := hSb (u + 1) (by omega)
        have S1 := hide s1
        clear s0 s1 hA HS HS1 hd hu
        go_wp2
        clear t0 d0
        go_loopg [7, 10] (S (u + 1) - S u) (fun gj v j wi => ∃ (r' : Nat → Bool) (q' : List Nat) (i : Nat), S u ≤ i ∧ i ≤ S (u + 1) ∧ gj = S (u + 1) - i ∧ j = .int .i64 i ∧ h < q'.length ∧ Srch n (Ed n S T) r' (q'.drop (h + 1)) (fun x => x = u) ∧ r' u = true ∧ (∀ x, S u ≤ x → x < i → r' (T x) = true) ∧ Sm w wi n r' v q' ∧ q'.length + unr r' n ≤ n ∧ 2 * unr r' n + (q'.length - (h + 1)) + 1 ≤ gk)
        case atStart => exact ⟨r, q, S u, Nat.le_refl _, hm1, rfl, rfl, hst, HS2.out, hru, fun x h1 h2 => absurd h2 (by omega), hsm, hqn, by omega⟩
        case round =>
          clear HS2 hru hst hqn hgk hsm hle
          obtain ⟨r', q', i, hi1, hi2, rfl, rfl, hst, hsr, hru, hall, hsm, hqn, hgk2⟩ := hrel
          have HALL := hide hall
          have HSR := hide hsr
          clear hall hsr
          have t1 : wr.cell? ⟨b1, o1 + (u + 1), none⟩ = some (.int .i64 (S (u + 1) : Int)) := by rw [hsm.below.cell (cell_lt S1.out)]; exact S1.out
          by_cases hj : i < S (u + 1)
          · obtain ⟨g2, o2, rfl, p0, p1⟩ := hP i (by omega)
            obtain ⟨hft, htn⟩ := HT.out u i hun hi1 hj
            rw [hft] at p0
            have c0 : wr.cell? ⟨g2, o2 + i * 2, none⟩ = some (.int .i64 (T i : Int)) := by rw [hsm.below.cell (cell_lt p0)]; exact p0
            have r0 := hsm.row.cell htn
            have r1 := hsm.row.frozen (T i)
            have hlt := hsm.lt
            clear p0 p1 hft
            have HE : Hid (Ed n S T u (T i)) := ⟨hun, i, hi1, hj, rfl⟩
            generalize hT1 : T i = t at c0 r0 r1 htn HE
            have HT1 := hide hT1
            clear hT1
            by_cases hrt : r' t = true
            · have hrt' : Hid (r' t = true) := hrt
              rw [hrt] at r0
              clear hrt
              go_wp2
              go_roundg (S (u + 1) - (i + 1))
              case measure => omega
              case rel =>
                refine ⟨r', q', i + 1, by omega, by omega, rfl, by go_num, hst, HSR.out, hru, fun x h1 h2 => ?_, hsm, hqn, hgk2⟩
                by_cases e : x = i
                · subst e; rw [HT1.out]; exact hrt'.out
                · exact HALL.out x h1 (by omega)
            · have hrt' : Hid (r' t = false) := hide (by simpa using hrt)
              rw [hrt'.out] at r0
              clear hrt
              have hsmB := hsm.mark t
              go_wp2_with (at_builtin; (refine wpList_appI _ (.tmp 63) (.tmp 65) (t : Int) _ (w.heap.size + 1) (by simp; omega) _ _ rfl rfl rfl rfl (hsmB.alloc _).own ?_ ?_ ?_))
              · rw [World.cell?_alloc_at _ _ _ _ (by simp)]; rfl
              · simp; omega
              · intro v1 w1 ho1 hg1
                have hsmC := (hsmB.alloc _).app hg1 ho1
                have HS3 := hide (HSR.out.push hru HE.out hrt'.out htn)
                have hun2 := unr_set r' t hrt'.out n htn
                have HUN := hide hun2
                have hru2 : setR r' t u = true := by unfold setR; split <;> simp [hru]
                clear ho1 hg1 hsmB r0 r1 c0 hun2
                go_wp2
                go_roundg (S (u + 1) - (i + 1))
                case measure => omega
                case rel =>
                  refine ⟨setR r' t, q' ++ [t], i + 1, by omega, by omega, rfl, by go_num, by simp; omega, ?_, hru2, fun x h1 h2 => ?_, hsmC, ?_, ?_⟩
                  · rw [List.drop_append_of_le_length (by omega)]; exact HS3.out
                  · unfold setR
                    by_cases e : x = i
                    · subst e; rw [HT1.out, if_pos rfl]
                    · split
                      · rfl
                      · exact HALL.out x h1 (by omega)
                  · have := HUN.out
                    simp only [List.length_append, List.length_singleton]
                    omega
                  · have := HUN.out
                    simp only [List.length_append, List.length_singleton]
                    omega
          · have HFIN : Hid (Srch n (Ed n S T) r' (q'.drop (h + 1)) none1) := by
              refine HSR.out.done (fun x hx => ?_)
              obtain ⟨_, y, h1, h2, rfl⟩ := hx
              exact HALL.out y h1 (by omega)
            go_wp2
            go_roundg (2 * unr r' n + (q'.length - (h + 1)))
            case measure => omega
            case rel => exact ⟨r', q', h + 1, by omega, by go_num, HFIN.out, hsm, hqn, Nat.le_refl _⟩
      · have hnil : q.drop h = [] := by simp; omega
        have hfin := HS.out
        rw [hnil] at hfin
        have HF := hide hfin.fin
        clear hfin HS hnil
        have hrow := hsm.row
        have hbel := hsm.below
        go_wp2
        clear hsm hgk hqn hle hcp hA hA0 hst
        generalize wr = w9 at *
        go_loopg [12] n (fun gj i wi => w9 = wi ∧ ∃ k : Nat, k ≤ n ∧ gj = n - k ∧ i = .int .i64 k ∧ ∀ x, x < k → r x = true)
        case atStart => exact ⟨rfl, 0, Nat.zero_le _, rfl, rfl, fun x hx => absurd hx (Nat.not_lt_zero _)⟩
        case round =>
          obtain ⟨rfl, k, hk, rfl, rfl, hall⟩ := hrel
          have HALL := hide hall
          clear hall
          by_cases hlt : k < n
          · have c0 := hrow.cell hlt
            by_cases hrk : r k = true
            · have HRK := hide hrk
              rw [hrk] at c0
              clear hrk
              go_wp2
              go_roundg (n - (k + 1))
              case measure => omega
              case rel =>
                refine ⟨rfl, k + 1, by omega, rfl, by go_num, fun x hx => ?_⟩
                by_cases e : x = k
                · subst e; exact HRK.out
                · exact HALL.out x (by omega)
            · have hrk' : r k = false := by simpa using hrk
              have HRK := hide hrk'
              rw [hrk'] at c0
              clear hrk hrk'
              go_wp2
              go_ret
              refine ⟨_, rfl, Or.inr ⟨k, hlt, rfl, fun h => ?_, fun x hx => (HF.out x).1 (HALL.out x hx)⟩, hbel⟩
              rw [← HF.out k, HRK.out] at h
              cases h
          · go_wp2
            go_ret
            exact ⟨_, rfl, Or.inl ⟨rfl, fun x hx => (HF.out x).1 (HALL.out x (by omega))⟩, hbel⟩
end Go.Proofs.Qxb6605238a
