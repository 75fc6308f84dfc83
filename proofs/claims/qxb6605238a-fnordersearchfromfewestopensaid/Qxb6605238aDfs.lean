import Derived.Test.Qxb6605238aOwn
import Derived.Test.Qxb6605238aSrch
namespace Go.Proofs.Qxb6605238a
open Go.RowKit Go.Deep
set_option linter.unusedVariables false
set_option linter.unusedSimpArgs false

/-- The arcs of the graph. -/
def Ed (n : Nat) (S : Nat → Nat) (T : Nat → Nat) : Nat → Nat → Prop := fun u v => u < n ∧ ∃ i, S u ≤ i ∧ i < S (u + 1) ∧ T i = v

/-- Memory during a search: what is reached; what is pending. -/
structure Sm (w wr : World) (n : Nat) (r : Nat → Bool) (v : Value) (st : List Nat) : Prop where
  below : Below w.heap.size w wr
  row : wr.rowIs w.heap.size 4 n (fun i => .bool (r i))
  own : OwnI wr (w.heap.size + 1) v (st.map (fun u : Nat => (u : Int)))

theorem Sm.lt {w wr : World} {n : Nat} {r : Nat → Bool} {v : Value} {st : List Nat} (h : Sm w wr n r v st) : w.heap.size < wr.heap.size := h.row.lt
theorem Sm.alloc {w wr : World} {n : Nat} {r : Nat → Bool} {v : Value} {st : List Nat} (h : Sm w wr n r v st) (o : Obj) : Sm w (wr.alloc o) n r v st :=
  ⟨h.below.alloc (Nat.le_of_lt h.lt) _, h.row.alloc _, h.own.alloc _⟩
theorem Sm.drewN {w wr : World} {n : Nat} {r : Nat → Bool} {v : Value} {st : List Nat} (h : Sm w wr n r v st) (m : Nat) : Sm w (wr.drewN m) n r v st :=
  ⟨below_drewN h.below m, h.row, h.own⟩
theorem Sm.mark {w wr : World} {n : Nat} {r : Nat → Bool} {v : Value} {st : List Nat} (h : Sm w wr n r v st) (t : Nat) : Sm w (wr.setCell ⟨w.heap.size, t, none⟩ (.bool true)) n (setR r t) v st := by
  refine ⟨h.below.setCell (Nat.le_refl _) _, (h.row.set t _).congr fun j _ => ?_, h.own.setBelow (by show w.heap.size < _; omega) _⟩
  unfold setR
  by_cases e : j = t
  · rw [if_pos e, if_pos e]
  · rw [if_neg e, if_neg e]
theorem Sm.app {w wr w1 : World} {n : Nat} {r : Nat → Bool} {v v1 : Value} {st : List Nat} {t : Nat} (h : Sm w wr n r v st) (hg : wr.grownBy w1 v.ownBlock) (ho : OwnI w1 (w.heap.size + 1) v1 (st.map (fun u : Nat => (u : Int)) ++ [(t : Int)])) : Sm w w1 n r v1 (st ++ [t]) := by
  have := h.lt
  refine ⟨h.own.below hg h.below (by omega) (by omega), h.own.rowKept hg h.row (by omega), ?_⟩
  rw [List.map_append]
  exact ho

theorem made0 {n : Nat} (hn : 0 < n) : (madeCells #[Value.bool false] n)[0]? = some (.bool false) := by simp [madeCells, hn]

theorem sm_start (w : World) (n : Nat) (hn : 0 < n) :
    Sm w ((w.alloc (.cells ((madeCells #[Value.bool false] n).setIfInBounds 0 (.bool true)) 4)).alloc (.cells #[.int .i64 0] 3)) n start1 (.slice (some ⟨w.heap.size + 1, 0, none⟩) 1 1) [0] := by
  refine ⟨((Below.refl _ _).alloc (Nat.le_refl _) _).alloc (by simp) _, ?_, ?_⟩
  · refine World.rowIs.alloc ⟨_, blk_alloc_new _ _, by simp [size_madeCells], fun i hi => ?_⟩ _
    rw [Array.getElem?_setIfInBounds]
    by_cases e : i = 0
    · subst e; simp [size_madeCells, hn, start1]
    · rw [if_neg (fun h => e h.symm)]
      simp [madeCells, hi, start1, e, Nat.mod_one]
  · have := World.ownsRow_lit (base := w.heap.size + 1) (e := 3) (size := 1) (w.alloc (.cells ((madeCells #[Value.bool false] n).setIfInBounds 0 (.bool true)) 4)) #[.int .i64 0] 1 (by simp) (by decide) rfl
    simpa [OwnI] using this

theorem Sm.pop {w wr : World} {n g k cp : Nat} {r : Nat → Bool} {st : List Nat} {u : Nat} (h : Sm w wr n r (.slice (some ⟨g, 0, none⟩) k cp) (st ++ [u])) : Sm w wr n r (.slice (some ⟨g, 0, none⟩) st.length cp) st := by
  refine ⟨h.below, h.row, ?_⟩
  have h' := h.own
  rw [List.map_append] at h'
  have := OwnI.pop h'
  rwa [List.length_map] at this

theorem last_of {st : List Nat} (h : 0 < st.length) : ∃ st' u, st = st' ++ [u] := by
  refine ⟨st.dropLast, st.getLast (by intro e; subst e; simp at h), ?_⟩
  rw [List.dropLast_concat_getLast]

set_option maxRecDepth 100000 in
set_option maxHeartbeats 1600000 in
theorem dfs_any (b1 o1 c1 g2 o2 m c2 n : Nat) (S T : Nat → Nat) (xs : List (Int × Int)) (w : World) (hn : 0 < n) (hn2 : n ≤ 65536) (hm : m ≤ 65536) (hmc : m ≤ c2) (hc2 : c2 ≤ 1048576)
    (hS : Cells w (some ⟨b1, o1, none⟩) (n + 1) (fun i => .int .i64 (S i : Int))) (hmono : ∀ i, i < n → S i ≤ S (i + 1)) (hSb : ∀ i, i ≤ n → S i ≤ m)
    (hP : Prs w (some ⟨g2, o2, none⟩) xs) (hxs : m ≤ xs.length) (hT : ∀ u i, u < n → S u ≤ i → i < S (u + 1) → fa xs i = (T i : Int) ∧ T i < n) :
    Calls Try.prog 20 #[.slice (some ⟨b1, o1, none⟩) ((n + 1 : Nat) : Nat) c1, .slice (some ⟨g2, o2, none⟩) m c2] w fun e w' => ∃ a : Int, e = .returned (.int .i64 a) ∧ Ans n (Ed n S T) a ∧ Below w.heap.size w w' := by
  have hmk := run_make_row' (P := Try.prog) 23 4 (.bool false) 1 Try.underlying23 info4 rfl .i64 .i64 n (by omega) (by omega)
  have hn0 : ((n : Int) == 0) = false := by simp; omega
  have hn1 : (0 : Int) < n := by omega
  have hmd := made0 hn
  have HM := hide hmono
  have HT := hide hT
  clear hmono hT
  go_enter Try.func20, Try.ntmps20
  go_wp2
  clear hmk hmd
  go_loopg [7] (2 * n + 1) (fun gk v wr => ∃ r st, Srch n (Ed n S T) r st none1 ∧ Sm w wr n r v st ∧ 2 * unr r n + st.length ≤ gk)
  case atStart => exact ⟨start1, [0], srch_start _ hn, sm_start w n hn, by have := unr_le start1 n; simp; omega⟩
  case round =>
    obtain ⟨r, st, hsr, hsm, hgk⟩ := hrel
    obtain ⟨A, cp, rfl, hA, hA0, hle, hcp⟩ := hsm.own.shape
    have HS := hide hsr
    have hsz := hsr.size
    clear hsr
    simp only [List.length_map] at *
    by_cases hst : 0 < st.length
    · obtain ⟨g, rfl⟩ := hA hst
      obtain ⟨st', u, rfl⟩ := last_of hst
      have hun : r u = true ∧ u < n := by
        have := HS.out.pend u (by simp)
        exact ⟨this, (HS.out.rng u this).1⟩
      obtain ⟨hru, hu⟩ := hun
      have hown := hsm.own
      rw [List.map_append] at hown
      have d0 := hown.cell (j := st'.length) (by simp)
      have d1 : iz (st'.map (fun u : Nat => (u : Int)) ++ [(u : Int)]) st'.length = (u : Int) := by simp [iz, List.getD]
      simp only [List.map_cons, List.map_nil] at d0
      rw [d1] at d0
      clear d1
      obtain ⟨bq, oq, e1, s0⟩ := hS u (by omega)
      cases e1
      obtain ⟨bq, oq, e1, s1⟩ := hS (u + 1) (by omega)
      cases e1
      have t0 : wr.cell? ⟨b1, o1 + u, none⟩ = some (.int .i64 (S u : Int)) := by rw [hsm.below.cell (cell_lt s0)]; exact s0
      have t1 : wr.cell? ⟨b1, o1 + (u + 1), none⟩ = some (.int .i64 (S (u + 1) : Int)) := by rw [hsm.below.cell (cell_lt s1)]; exact s1
      have hm1 := HM.out u hu
      have hm2 := hSb (u + 1) (by omega)
      clear s0 s1 hA
      simp only [List.length_append, List.length_singleton] at *
      have hsm2 := hsm.pop
      have HS2 := hide HS.out.pop
      have hsz2 : 2 * unr r n + st'.length + 1 ≤ gk := by omega
      clear HS hgk hst hsm hown
      by_cases hcu : c2 ≤ S u
      · go_wp2
        go_quiet (fail)
        go_wp2
        clear t0 t1 d0
        go_loopg [7, 49] 0 (fun gj v j wi => v = .slice (some ⟨g, 0, none⟩) st'.length cp ∧ j = .int .i64 0 ∧ wi = wr.drewN nq)
        case atStart => exact ⟨rfl, rfl, rfl⟩
        case round =>
          obtain ⟨rfl, rfl, hwi⟩ := hrel
          have HWI := hide hwi
          clear hwi
          have HFIN : Hid (Srch n (Ed n S T) r st' none1) := by
            refine HS2.out.done (fun x hx => ?_)
            obtain ⟨_, i, h1, h2, rfl⟩ := hx
            omega
          go_wp2
          go_roundg (2 * unr r n + st'.length)
          case measure => omega
          case rel => exact ⟨r, st', HFIN.out, by rw [HWI.out]; exact hsm2.drewN nq, Nat.le_refl _⟩
      · go_wp2
        go_quiet (fail)
        go_wp2
        clear t0 t1 d0
        go_loopg [7, 49] (S (u + 1) - S u) (fun gj v j wi => ∃ (r' : Nat → Bool) (st'' : List Nat) (jj : Nat), jj ≤ S (u + 1) - S u ∧ gj = S (u + 1) - S u - jj ∧ j = .int .i64 jj ∧ Srch n (Ed n S T) r' st'' (fun x => x = u) ∧ r' u = true ∧ (∀ i, S u ≤ i → i < S u + jj → r' (T i) = true) ∧ Sm w wi n r' v st'' ∧ 2 * unr r' n + st''.length + 1 ≤ gk)
        case atStart => exact ⟨r, st', 0, Nat.zero_le _, rfl, rfl, HS2.out, hru, fun i h1 h2 => absurd h2 (by omega), hsm2.drewN nq, hsz2⟩
        case round =>
          clear hsm2 HS2 hsz2 hsz hru
          obtain ⟨r', st'', jj, hjj, rfl, rfl, hsr, hru, hall, hsm, hgk2⟩ := hrel
          have HALL := hide hall
          have HSR := hide hsr
          have hsz := hsr.size
          clear hall hsr
          by_cases hj : jj < S (u + 1) - S u
          · obtain ⟨bq, oq, e1, p0, p1⟩ := hP (S u + jj) (by omega)
            cases e1
            obtain ⟨hft, htn⟩ := HT.out u (S u + jj) hu (by omega) (by omega)
            rw [hft] at p0
            have c0 : wr.cell? ⟨g2, o2 + S u * 2 + jj * 2, none⟩ = some (.int .i64 (T (S u + jj) : Int)) := by
              rw [show o2 + S u * 2 + jj * 2 = o2 + (S u + jj) * 2 by omega, hsm.below.cell (cell_lt p0)]; exact p0
            have c1' : wr.cell? ⟨g2, o2 + S u * 2 + jj * 2 + 1, none⟩ = some (.int .i64 (sa xs (S u + jj))) := by
              rw [show o2 + S u * 2 + jj * 2 + 1 = o2 + (S u + jj) * 2 + 1 by omega, hsm.below.cell (cell_lt p1)]; exact p1
            have hlt := hsm.lt
            have hsmA := fun o => hsm.alloc o
            have r0 := fun o => (hsmA o).row.cell htn
            have r1 := fun o => (hsmA o).row.frozen (T (S u + jj))
            clear p0 p1 hft
            have HE : Hid (Ed n S T u (T (S u + jj))) := ⟨hu, S u + jj, by omega, by omega, rfl⟩
            generalize hT1 : T (S u + jj) = t at c0 r0 r1 htn HE
            have HT1 := hide hT1
            clear hT1
            generalize sa xs (S u + jj) = lk at c1'
            by_cases hrt : r' t = true
            · have hrt' : Hid (r' t = true) := hrt
              simp only [hrt] at r0
              clear hrt
              go_wp2
              go_roundg (S (u + 1) - S u - (jj + 1))
              case measure => omega
              case rel =>
                refine ⟨r', st'', jj + 1, by omega, rfl, by go_num, HSR.out, hru, fun i h1 h2 => ?_, hsmA _, hgk2⟩
                by_cases e : i = S u + jj
                · subst e; rw [HT1.out]; exact hrt'.out
                · exact HALL.out i h1 (by omega)
            · have hrt' : Hid (r' t = false) := hide (by simpa using hrt)
              simp only [hrt'.out] at r0
              clear hrt
              have hsmB := hsm.mark t
              go_wp2_with (at_builtin; refine wpList_appI _ (.tmp 63) (.tmp 66) (t : Int) _ (w.heap.size + 1) (by simp; omega) _ _ rfl rfl rfl rfl ((hsmB.alloc _).alloc _).own ?_ ?_ ?_)
              · rw [World.cell?_alloc_at _ _ _ _ (by simp)]; rfl
              · simp; omega
              · intro v1 w1 ho1 hg1
                have hsmC := ((hsmB.alloc _).alloc _).app hg1 ho1
                have HS3 := hide (HSR.out.push hru HE.out hrt'.out htn)
                have hun := unr_set r' t hrt'.out n htn
                have HUN := hide hun
                have hru2 : setR r' t u = true := by unfold setR; split <;> simp [hru]
                clear ho1 hg1 hsmB hsmA r0 r1 c0 c1' hun
                go_wp2
                go_roundg (S (u + 1) - S u - (jj + 1))
                case measure => omega
                case rel =>
                  refine ⟨setR r' t, st'' ++ [t], jj + 1, by omega, rfl, by go_num, HS3.out, hru2, fun i h1 h2 => ?_, hsmC, ?_⟩
                  · unfold setR
                    by_cases e : i = S u + jj
                    · subst e; rw [HT1.out, if_pos rfl]
                    · split
                      · rfl
                      · exact HALL.out i h1 (by omega)
                  · have := HUN.out
                    simp only [List.length_append, List.length_singleton]
                    omega
          · have HFIN : Hid (Srch n (Ed n S T) r' st'' none1) := by
              refine HSR.out.done (fun x hx => ?_)
              obtain ⟨_, i, h1, h2, rfl⟩ := hx
              exact HALL.out i h1 (by omega)
            go_wp2
            go_roundg (2 * unr r' n + st''.length)
            case measure => omega
            case rel => exact ⟨r', st'', HFIN.out, hsm, Nat.le_refl _⟩
    · have hnil : st = [] := List.eq_nil_of_length_eq_zero (by omega)
      subst hnil
      have hfin := HS.out.fin
      have HF := hide hfin
      clear hfin HS
      simp only [List.length_nil] at *
      go_wp2
      have hrow := hsm.row
      have hbel := hsm.below
      clear hsm hgk hsz hle hcp hA hA0 hst
      generalize wr = w9 at *
      go_loopg [71] n (fun gj i wi => w9 = wi ∧ ∃ k : Nat, k ≤ n ∧ gj = n - k ∧ i = .int .i64 k ∧ ∀ x, x < k → r x = true)
      case atStart => exact ⟨rfl, 0, Nat.zero_le _, rfl, rfl, fun x hx => absurd hx (Nat.not_lt_zero _)⟩
      case round =>
        obtain ⟨rfl, k, hk, rfl, rfl, hall⟩ := hrel
        have HALL := hide hall
        clear hall
        by_cases hlt : k < n
        · have c0 := hrow.cell hlt
          by_cases hrk : r k = true
          · have HRK := hide hrk
            rw [hrk] at c0
            clear hrk
            go_wp2
            go_roundg (n - (k + 1))
            case measure => omega
            case rel =>
              refine ⟨rfl, k + 1, by omega, rfl, by go_num, fun x hx => ?_⟩
              by_cases e : x = k
              · subst e; exact HRK.out
              · exact HALL.out x (by omega)
          · have hrk' : r k = false := by simpa using hrk
            have HRK := hide hrk'
            rw [hrk'] at c0
            clear hrk hrk'
            go_wp2
            go_ret
            refine ⟨_, rfl, Or.inr ⟨k, hlt, rfl, fun h => ?_, fun x hx => (HF.out x).1 (HALL.out x hx)⟩, hbel⟩
            rw [← HF.out k, HRK.out] at h
            cases h
        · go_wp2
          go_ret
          exact ⟨_, rfl, Or.inl ⟨rfl, fun x hx => (HF.out x).1 (HALL.out x (by omega))⟩, hbel⟩
end Go.Proofs.Qxb6605238a
