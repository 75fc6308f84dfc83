import Derived.Test.Qxb6604105aRemove
namespace Go.Proofs.Qxb6604105a
open Go.RowKit Go.Deep
set_option linter.unusedVariables false
set_option linter.unusedSimpArgs false

theorem min_l {a b : Int} (h : a < b) (w : World) : Calls Try.prog 20 #[.int .i64 a, .int .i64 b] w fun e w' => e = .returned (.int .i64 a) ∧ w' = w := by
  have := min_any a b w
  rwa [if_pos h] at this
theorem min_r {a b : Int} (h : ¬ a < b) (w : World) : Calls Try.prog 20 #[.int .i64 a, .int .i64 b] w fun e w' => e = .returned (.int .i64 b) ∧ w' = w := by
  have := min_any a b w
  rwa [if_neg h] at this
theorem max_l {a b : Int} (h : b < a) (w : World) : Calls Try.prog 21 #[.int .i64 a, .int .i64 b] w fun e w' => e = .returned (.int .i64 a) ∧ w' = w := by
  have := max_any a b w
  rwa [if_pos h] at this
theorem max_r {a b : Int} (h : ¬ b < a) (w : World) : Calls Try.prog 21 #[.int .i64 a, .int .i64 b] w fun e w' => e = .returned (.int .i64 b) ∧ w' = w := by
  have := max_any a b w
  rwa [if_neg h] at this

/-- The relation of the clip model's loop. -/
structure RelC (w wr : World) (v : Value) (out : List (Int × Int)) : Prop where
  own : Own wr w.heap.size 33 v out
  below : Below w.heap.size w wr

theorem RelC.alloc {w wr : World} {v : Value} {out : List (Int × Int)} (h : RelC w wr v out) (o : Obj) : RelC w (wr.alloc o) v out := ⟨h.own.alloc o, h.below.alloc h.below.size _⟩
theorem RelC.app {w wr w1 : World} {v v1 : Value} {out out1 : List (Int × Int)} (h : RelC w wr v out) (hg : wr.grownBy w1 v.ownBlock) (ho : Own w1 w.heap.size 33 v1 out1) : RelC w w1 v1 out1 :=
  ⟨ho, h.own.below hg h.below (Nat.le_refl _) h.below.size⟩

set_option maxRecDepth 100000 in
set_option maxHeartbeats 3200000 in
theorem clip_any (cap : Nat) (A : Option Addr) (xs : List (Int × Int)) (f g : Int) (w : World) (hfg : f ≤ g) (hA : Prs w A xs) (hv : Val xs) (hn : xs.length ≤ 65536) :
    Calls Try.prog 11 #[.slice A xs.length cap, .int .i64 f, .int .i64 g] w fun e w' => ∃ v, e = .returned v ∧ RelC w w' v (remL f g xs) := by
  have HV : Hid (Val xs) := hv
  clear hv
  go_enter Try.func11, Try.ntmps11
  go_wp2
  go_loopg [7, 8] xs.length (fun gk v i wr => ∃ k : Nat, k ≤ xs.length ∧ gk = xs.length - k ∧ i = .int .i64 k ∧ RelC w wr v (remL f g (xs.take k)))
  case atStart => exact ⟨0, Nat.zero_le _, rfl, rfl, by simpa [remL] using Own.nil _ _ _, Below.refl _ _⟩
  case round =>
    obtain ⟨k, hk, rfl, rfl, hrel⟩ := hrel
    have hsz := hrel.below.size
    by_cases hlt : k < xs.length
    · obtain ⟨bb, off, rfl, p0, p1⟩ := hA k hlt
      have HT : Hid (remL f g (xs.take (k + 1)) = remL f g (xs.take k) ++ rem1 f g (fa xs k, sa xs k)) := remL_take f g xs k hlt
      have hlen : (remL f g (xs.take k)).length ≤ 131072 := by
        have := remL_len f g (xs.take k)
        have h2 : (xs.take k).length ≤ k := List.length_take_le _ _
        omega
      have c0 : wr.cell? ⟨bb, off + k * 2, none⟩ = some (.int .i64 (fa xs k)) := by rw [hrel.below.cell (cell_lt p0)]; exact p0
      have c1 : wr.cell? ⟨bb, off + k * 2 + 1, none⟩ = some (.int .i64 (sa xs k)) := by rw [hrel.below.cell (cell_lt p1)]; exact p1
      have hle : fa xs k ≤ sa xs k := HV.out k hlt
      clear p0 p1
      generalize fa xs k = a at c0 HT hle
      generalize sa xs k = d at c1 HT hle
      have hrel1 := fun o => hrel.alloc o
      by_cases had : a = d
      · subst had
        rcases (show a < f ∨ (f ≤ a ∧ g < a) ∨ (f ≤ a ∧ a ≤ g) from by omega) with h1 | ⟨h1, h2⟩ | ⟨h1, h2⟩
        · go_wp2_with (at_builtin; refine wpList_app _ (.tmp 40) (.tmp 44) 26 33 a a _ w.heap.size Try.underlying26 info33 (by omega) _ _ rfl rfl rfl rfl (hrel1 _).own ?_ ?_ ?_ ?_)
          · simp
          · simp [Addr.add]
          · simp; omega
          · intro v1 w1 ho1 hg1
            have hrel2 := (hrel1 _).app hg1 ho1
            clear ho1 hg1 hrel1 c0 c1
            go_wp2
            go_roundg (xs.length - (k + 1))
            case measure => omega
            case rel =>
              refine ⟨k + 1, by omega, rfl, by go_num, ?_⟩
              rw [HT.out, r6 hfg h1 (by omega)]
              exact hrel2
        · have hdd : decide (a < f) = false := by simp; omega
          go_wp2_with (at_builtin; refine wpList_app _ (.tmp 40) (.tmp 44) 26 33 a a _ w.heap.size Try.underlying26 info33 (by omega) _ _ rfl rfl rfl rfl (hrel1 _).own ?_ ?_ ?_ ?_)
          · simp
          · simp [Addr.add]
          · simp; omega
          · intro v1 w1 ho1 hg1
            have hrel2 := (hrel1 _).app hg1 ho1
            clear ho1 hg1 hrel1 c0 c1
            go_wp2
            go_roundg (xs.length - (k + 1))
            case measure => omega
            case rel =>
              refine ⟨k + 1, by omega, rfl, by go_num, ?_⟩
              rw [HT.out, r5 hfg h1 (by omega) h2]
              exact hrel2
        · have hdd : decide (a < f) = false := by simp; omega
          go_wp2
          go_roundg (xs.length - (k + 1))
          case measure => omega
          case rel =>
            refine ⟨k + 1, by omega, rfl, by go_num, ?_⟩
            rw [HT.out, r1 h1 h2, List.append_nil]
            exact hrel
      · have hne : (a == d) = false := by simpa using had
        have hlt2 : a < d := by omega
        clear had hle
        rcases (show (f ≤ a ∧ d ≤ g) ∨ (a < f ∧ f < d ∧ g < d) ∨ (a < f ∧ f < d ∧ d ≤ g) ∨ (f ≤ a ∧ a < g ∧ g < d) ∨ (f ≤ a ∧ g ≤ a ∧ g < d) ∨ (a < f ∧ d ≤ f) from by omega) with ⟨h1, h2⟩ | ⟨h1, h2, h3⟩ | ⟨h1, h2, h3⟩ | ⟨h1, h2, h3⟩ | ⟨h1, h2, h3⟩ | ⟨h1, h2⟩
        · go_wp2_with fail
          refine (min_r (a := d) (b := f) (by omega) _).mono ?_
          rintro e w' ⟨rfl, hw⟩
          rw [hw]
          clear hw w'
          go_wp2_with fail
          refine (max_r (a := a) (b := g) (by omega) _).mono ?_
          rintro e w' ⟨rfl, hw⟩
          rw [hw]
          clear hw w'
          go_wp2
          go_roundg (xs.length - (k + 1))
          case measure => omega
          case rel =>
            refine ⟨k + 1, by omega, rfl, by go_num, ?_⟩
            rw [HT.out, r1 h1 h2, List.append_nil]
            exact hrel
        · go_wp2_with fail
          refine (min_r (a := d) (b := f) (by omega) _).mono ?_
          rintro e w' ⟨rfl, hw⟩
          rw [hw]
          clear hw w'
          go_wp2_with (at_builtin; refine wpList_app _ (.tmp 52) (.tmp 56) 26 33 a f _ w.heap.size Try.underlying26 info33 (by omega) _ _ rfl rfl rfl rfl (hrel1 _).own ?_ ?_ ?_ ?_)
          · simp
          · simp [Addr.add]
          · simp; omega
          · intro v1 w1 ho1 hg1
            have hrel2 := (hrel1 _).app hg1 ho1
            have hsz2 := hrel2.below.size
            have hrel3 := fun o => hrel2.alloc o
            clear ho1 hg1 hrel1 c0 c1
            go_wp2_with fail
            refine (max_r (a := a) (b := g) (by omega) _).mono ?_
            rintro e w' ⟨rfl, hw⟩
            rw [hw]
            clear hw w'
            go_wp2_with (at_builtin; refine wpList_app _ (.tmp 64) (.tmp 68) 26 33 g d _ w.heap.size Try.underlying26 info33 (by simp; omega) _ _ rfl rfl rfl rfl (hrel3 _).own ?_ ?_ ?_ ?_)
            · simp
            · simp [Addr.add]
            · simp; omega
            · intro v2 w2 ho2 hg2
              have hrel4 := (hrel3 _).app hg2 ho2
              clear ho2 hg2 hrel3
              go_wp2
              go_roundg (xs.length - (k + 1))
              case measure => omega
              case rel =>
                refine ⟨k + 1, by omega, rfl, by go_num, ?_⟩
                rw [HT.out, r2 hfg h1 h2 h3]
                simpa using hrel4
        · go_wp2_with fail
          refine (min_r (a := d) (b := f) (by omega) _).mono ?_
          rintro e w' ⟨rfl, hw⟩
          rw [hw]
          clear hw w'
          go_wp2_with (at_builtin; refine wpList_app _ (.tmp 52) (.tmp 56) 26 33 a f _ w.heap.size Try.underlying26 info33 (by omega) _ _ rfl rfl rfl rfl (hrel1 _).own ?_ ?_ ?_ ?_)
          · simp
          · simp [Addr.add]
          · simp; omega
          · intro v1 w1 ho1 hg1
            have hrel2 := (hrel1 _).app hg1 ho1
            clear ho1 hg1 hrel1 c0 c1
            go_wp2_with fail
            refine (max_r (a := a) (b := g) (by omega) _).mono ?_
            rintro e w' ⟨rfl, hw⟩
            rw [hw]
            clear hw w'
            go_wp2
            go_roundg (xs.length - (k + 1))
            case measure => omega
            case rel =>
              refine ⟨k + 1, by omega, rfl, by go_num, ?_⟩
              rw [HT.out, r3 hfg h1 h2 h3]
              exact hrel2
        · go_wp2_with fail
          refine (min_r (a := d) (b := f) (by omega) _).mono ?_
          rintro e w' ⟨rfl, hw⟩
          rw [hw]
          clear hw w'
          go_wp2_with fail
          refine (max_r (a := a) (b := g) (by omega) _).mono ?_
          rintro e w' ⟨rfl, hw⟩
          rw [hw]
          clear hw w'
          go_wp2_with (at_builtin; refine wpList_app _ (.tmp 64) (.tmp 68) 26 33 g d _ w.heap.size Try.underlying26 info33 (by omega) _ _ rfl rfl rfl rfl (hrel1 _).own ?_ ?_ ?_ ?_)
          · simp
          · simp [Addr.add]
          · simp; omega
          · intro v1 w1 ho1 hg1
            have hrel2 := (hrel1 _).app hg1 ho1
            clear ho1 hg1 hrel1 c0 c1
            go_wp2
            go_roundg (xs.length - (k + 1))
            case measure => omega
            case rel =>
              refine ⟨k + 1, by omega, rfl, by go_num, ?_⟩
              rw [HT.out, r4 hfg h1 h2 h3]
              exact hrel2
        · by_cases hga : g < a
          · go_wp2_with fail
            refine (min_r (a := d) (b := f) (by omega) _).mono ?_
            rintro e w' ⟨rfl, hw⟩
            rw [hw]
            clear hw w'
            go_wp2_with fail
            refine (max_l (a := a) (b := g) hga _).mono ?_
            rintro e w' ⟨rfl, hw⟩
            rw [hw]
            clear hw w'
            go_wp2_with (at_builtin; refine wpList_app _ (.tmp 64) (.tmp 68) 26 33 a d _ w.heap.size Try.underlying26 info33 (by omega) _ _ rfl rfl rfl rfl (hrel1 _).own ?_ ?_ ?_ ?_)
            · simp
            · simp [Addr.add]
            · simp; omega
            · intro v1 w1 ho1 hg1
              have hrel2 := (hrel1 _).app hg1 ho1
              clear ho1 hg1 hrel1 c0 c1
              go_wp2
              go_roundg (xs.length - (k + 1))
              case measure => omega
              case rel =>
                refine ⟨k + 1, by omega, rfl, by go_num, ?_⟩
                rw [HT.out, r5 hfg h1 h2 h3]
                exact hrel2
          · have hga' : g = a := by omega
            subst hga'
            go_wp2_with fail
            refine (min_r (a := d) (b := f) (by omega) _).mono ?_
            rintro e w' ⟨rfl, hw⟩
            rw [hw]
            clear hw w'
            go_wp2_with fail
            refine (max_r (a := g) (b := g) (by omega) _).mono ?_
            rintro e w' ⟨rfl, hw⟩
            rw [hw]
            clear hw w'
            go_wp2_with (at_builtin; refine wpList_app _ (.tmp 64) (.tmp 68) 26 33 g d _ w.heap.size Try.underlying26 info33 (by omega) _ _ rfl rfl rfl rfl (hrel1 _).own ?_ ?_ ?_ ?_)
            · simp
            · simp [Addr.add]
            · simp; omega
            · intro v1 w1 ho1 hg1
              have hrel2 := (hrel1 _).app hg1 ho1
              clear ho1 hg1 hrel1 c0 c1
              go_wp2
              go_roundg (xs.length - (k + 1))
              case measure => omega
              case rel =>
                refine ⟨k + 1, by omega, rfl, by go_num, ?_⟩
                rw [HT.out, r5 hfg h1 h2 h3]
                exact hrel2
        · by_cases hdf : d < f
          · go_wp2_with fail
            refine (min_l (a := d) (b := f) hdf _).mono ?_
            rintro e w' ⟨rfl, hw⟩
            rw [hw]
            clear hw w'
            go_wp2_with (at_builtin; refine wpList_app _ (.tmp 52) (.tmp 56) 26 33 a d _ w.heap.size Try.underlying26 info33 (by omega) _ _ rfl rfl rfl rfl (hrel1 _).own ?_ ?_ ?_ ?_)
            · simp
            · simp [Addr.add]
            · simp; omega
            · intro v1 w1 ho1 hg1
              have hrel2 := (hrel1 _).app hg1 ho1
              clear ho1 hg1 hrel1 c0 c1
              go_wp2_with fail
              refine (max_r (a := a) (b := g) (by omega) _).mono ?_
              rintro e w' ⟨rfl, hw⟩
              rw [hw]
              clear hw w'
              go_wp2
              go_roundg (xs.length - (k + 1))
              case measure => omega
              case rel =>
                refine ⟨k + 1, by omega, rfl, by go_num, ?_⟩
                rw [HT.out, r6 hfg h1 h2]
                exact hrel2
          · have hdf' : d = f := by omega
            subst hdf'
            go_wp2_with fail
            refine (min_r (a := d) (b := d) (by omega) _).mono ?_
            rintro e w' ⟨rfl, hw⟩
            rw [hw]
            clear hw w'
            go_wp2_with (at_builtin; refine wpList_app _ (.tmp 52) (.tmp 56) 26 33 a d _ w.heap.size Try.underlying26 info33 (by omega) _ _ rfl rfl rfl rfl (hrel1 _).own ?_ ?_ ?_ ?_)
            · simp
            · simp [Addr.add]
            · simp; omega
            · intro v1 w1 ho1 hg1
              have hrel2 := (hrel1 _).app hg1 ho1
              clear ho1 hg1 hrel1 c0 c1
              go_wp2_with fail
              refine (max_r (a := a) (b := g) (by omega) _).mono ?_
              rintro e w' ⟨rfl, hw⟩
              rw [hw]
              clear hw w'
              go_wp2
              go_roundg (xs.length - (k + 1))
              case measure => omega
              case rel =>
                refine ⟨k + 1, by omega, rfl, by go_num, ?_⟩
                rw [HT.out, r6 hfg h1 h2]
                exact hrel2
    · have hkl : k = xs.length := by omega
      subst hkl
      rw [List.take_length] at hrel
      go_wp2
      go_ret
      exact ⟨_, rfl, hrel⟩
end Go.Proofs.Qxb6604105a
