import Derived.Test.Qxb6604105aLaw4
import Derived.Test.Qxb6604105aClip
namespace Go.Proofs.Qxb6604105a
open Go.RowKit Go.Deep
set_option linter.unusedVariables false
set_option linter.unusedSimpArgs false

theorem same_true (A A2 : Option Addr) (cap cap2 : Nat) (xs : List (Int × Int)) (w : World) (hA : Prs w A xs) (hA2 : Prs w A2 xs) (hn : xs.length ≤ 1048576) :
    Calls Try.prog 10 #[.slice A xs.length cap, .slice A2 xs.length cap2] w fun e w' => e = .returned (.bool true) ∧ ∃ m, w' = w.drewN m := by
  refine (same_any A A2 cap cap2 xs xs w hA hA2 hn).mono ?_
  rintro e w' ⟨t, rfl, ht, hm⟩
  obtain rfl : t = true := ht.2 rfl
  exact ⟨rfl, hm⟩

theorem touch_idx {f g : Int} (xs : List (Int × Int)) : (∃ p ∈ xs, Tch f g p) ↔ ∃ i, i < xs.length ∧ Tch f g (fa xs i, sa xs i) := by
  constructor
  · rintro ⟨p, hp, ht⟩
    obtain ⟨i, hi, e1, e2⟩ := mem_pair hp
    exact ⟨i, hi, by rw [e1, e2]; exact ht⟩
  · rintro ⟨i, hi, ht⟩
    exact ⟨_, pair_mem hi, ht⟩

theorem touched_is (a b f g : Int) (t : Bool) (h : t = true ↔ Tch f g (a, b)) (w : World) :
    Calls Try.prog 12 #[.int .i64 a, .int .i64 b, .int .i64 f, .int .i64 g] w fun e w' => e = .returned (.bool t) ∧ w' = w := by
  refine (touched_any a b f g w).mono ?_
  rintro e w' ⟨t', rfl, ht, hw⟩
  obtain rfl : t' = t := bool_eq_of ht h
  exact ⟨rfl, hw⟩

set_option maxRecDepth 100000 in
set_option maxHeartbeats 4000000 in
theorem law3 (A : Option Addr) (n cap : Nat) (msg f g : Int) (R : Nat → List (Int × Int)) (IA : Nat → Option Addr) (C : Nat → Nat) (w : World) (hR : Rng w A n R IA C) :
    Calls Try.prog 3 #[.slice A n cap, .int .i64 msg, .int .i64 f, .int .i64 g] w fun e w' => e = .returned (.bool true) ∧ Below w.heap.size w w' := by
  go_enter Try.func3, Try.ntmps3
  go_wp2_with fail
  refine (bytes5_any A n cap R IA C msg f g w hR).mono ?_
  rintro e w' ⟨⟨t, rfl⟩, hw⟩
  rw [hw]
  clear hw w'
  cases t
  · go_wp2
    go_ret
    exact ⟨rfl, Below.refl _ _⟩
  go_wp2_with fail
  refine (tooBig_any A n cap R IA C _ hR).mono ?_
  rintro e w' ⟨t, rfl, hw, hbig⟩
  rw [hw]
  clear hw w'
  cases t
  case true =>
    go_wp2
    go_ret
    exact ⟨rfl, Below.refl _ _⟩
  obtain ⟨hn2, hL⟩ := hbig rfl
  have HL : Hid (∀ i, i < n → (R i).length ≤ 65536) := hL
  clear hL hbig
  by_cases hm0 : msg < 0
  · go_wp2_with fail
    go_ret
    exact ⟨rfl, Below.refl _ _⟩
  by_cases hm1 : (n : Int) ≤ msg
  · have hdd : decide (msg < 0) = false := by simpa using hm0
    go_wp2_with fail
    go_ret
    exact ⟨rfl, Below.refl _ _⟩
  obtain ⟨mi, rfl⟩ : ∃ m : Nat, msg = (m : Int) := ⟨msg.toNat, by omega⟩
  have hmi : mi < n := by omega
  have hdd : decide ((mi : Int) < 0) = false := by simp
  clear hm0 hm1
  by_cases hfg : f ≤ g
  case neg =>
    go_wp2_with fail
    go_ret
    exact ⟨rfl, Below.refl _ _⟩
  obtain ⟨b, off, rfl, hc⟩ := hR.cell mi hmi
  have hrow := hR.row mi hmi
  have hLm := HL.out mi hmi
  go_wp2_with fail
  refine (valid_any (IA mi) (C mi) (R mi) _ hrow (by omega)).mono ?_
  rintro e w' ⟨t, rfl, hwf, m, rfl⟩
  cases t
  case false =>
    clear hwf
    go_wp2_with fail
    go_ret
    exact ⟨rfl, below_drewN (Below.refl _ _) m⟩
  have HW : Hid (Val (R mi)) := hwf.1 rfl
  have hB0 : Below w.heap.size w (w.drewN m) := below_drewN (Below.refl _ _) m
  have hR0 := hR.below hB0
  clear hwf hc hrow hR
  generalize w.drewN m = w0 at hB0 hR0 ⊢
  go_wp2_with fail
  refine (clone_any _ n cap R IA C w0 hR0 (by omega) hn2 (fun i hi => by have := HL.out i hi; omega)).mono ?_
  rintro e w1 ⟨rfl, V, hT⟩
  have hrng := hT.rng hR0.bare
  have hbel := hT.below
  have hB1 : Below w.heap.size w w1 := hB0.trans (hbel.mono hB0.size)
  clear hbel hR0 hT
  generalize w0.heap.size = N0 at hrng ⊢
  go_wp2_with fail
  refine (zz_any _ n n mi f g R V _ w1 hfg hrng hmi hn2 HL.out).mono ?_
  rintro e w2 ⟨t, N, V2, rfl, ht, hrng2, hnil2, hbel2⟩
  have hrng1 := hrng.below hbel2
  have hB2 : Below w.heap.size w w2 := hB1.trans (hbel2.mono hB1.size)
  have HCH : Hid (t = true ↔ ∃ p ∈ R mi, Tch f g p) := ht.trans (ne_iff_touch hfg HW.out)
  have HN : Hid (∀ i, i < n → (V2 i = none ↔ if i = mi then remL f g (R mi) = [] else V i = none)) := hnil2
  have hly : (remL f g (R mi)).length ≤ 131072 := by
    have := remL_len f g (R mi)
    omega
  clear ht hnil2 hbel2 hrng hB1 hB0
  have heq := fun w a n c => Lib.run_eql_slice_nil (P := Try.prog) w 26 33 a n c 0 0 Try.underlying26
  go_wp2_with fail
  go_loopg [11] n (fun gk i wr => (∃ m, wr = w2.drewN m) ∧ ∃ k : Nat, k ≤ n ∧ gk = n - k ∧ i = .int .i64 k)
  case atStart => exact ⟨⟨0, rfl⟩, 0, Nat.zero_le _, rfl, rfl⟩
  case round =>
    obtain ⟨⟨m1, hm1⟩, k, hk, rfl, rfl⟩ := hrel
    have HM : Hid (wr = w2.drewN m1) := hm1
    by_cases hlt : k < n
    · by_cases hkm : k = mi
      · have hkk : ((k : Int) == (mi : Int)) = true := by simp; omega
        clear hkm hm1
        go_wp2_with fail
        go_roundg (n - (k + 1))
        case measure => omega
        case rel => exact ⟨⟨m1, HM.out⟩, k + 1, by omega, rfl, by go_num⟩
      · have hkk : ((k : Int) == (mi : Int)) = false := by simp; omega
        obtain ⟨b1, o1, e1, c1⟩ := hrng1.cell k hlt
        obtain ⟨b2, o2, e2, c2⟩ := hrng2.cell k hlt
        cases e1
        cases e2
        have hr1 : Prs wr _ _ := hm1 ▸ (hrng1.row k hlt).drewN m1
        have hr2 : Prs wr _ _ := hm1 ▸ (hrng2.row k hlt).drewN m1
        have hnn := HN.out k hlt
        rw [if_neg hkm] at hnn
        rw [Nat.zero_add] at c1 c2
        have c1 : wr.cell? ⟨N0, k, none⟩ = some (.slice (V k) (R k).length (R k).length) := by rw [hm1]; exact c1
        have c2 : wr.cell? ⟨N, k, none⟩ = some (.slice (V2 k) (newR mi f g R k).length (newR mi f g R k).length) := by rw [hm1]; exact c2
        clear hm1
        have hLk := HL.out k hlt
        rw [show newR mi f g R k = R k by unfold newR; rw [if_neg hkm]] at c2 hr2
        clear hkm
        have hsame := fun m => same_true (V2 k) (V k) (R k).length (R k).length (R k) (wr.drewN m) (hr2.drewN m) (hr1.drewN m) (by omega)
        have HS := hide hsame
        clear hsame hr1 hr2
        have hcases : (V2 k = none ∧ V k = none) ∨ ∃ x y, V2 k = some x ∧ V k = some y := by
          cases hv : V k with
          | none => exact Or.inl ⟨hnn.2 hv, rfl⟩
          | some y =>
            cases hv2 : V2 k with
            | none => rw [hnn.1 hv2] at hv; cases hv
            | some x => exact Or.inr ⟨x, y, rfl, rfl⟩
        clear hnn
        rcases hcases with ⟨e1, e2⟩ | ⟨x, y, e1, e2⟩
        all_goals
          rw [e1] at c2 HS
          rw [e2] at c1 HS
          clear e1 e2
          go_wp2_with fail
          go_quiet ((go_at_call 10; exact Calls.quiet_of (HS.out _)))
          go_wp2_with fail
          go_quiet (fail)
          go_wp2_with fail
          go_roundg (n - (k + 1))
          case measure => omega
          case rel => exact ⟨by rw [HM.out]; first | exact dr2 _ _ _ | exact dr3 _ _ _ _, k + 1, by omega, rfl, by go_num⟩
    · clear HM
      subst hm1
      have hrw := hrng1.row mi hmi
      have hrg := hrng2.row mi hmi
      obtain ⟨b1, o1, e1, c1⟩ := hrng1.cell mi hmi
      obtain ⟨b2, o2, e2, c2⟩ := hrng2.cell mi hmi
      cases e1
      cases e2
      rw [Nat.zero_add] at c1 c2
      rw [show newR mi f g R mi = remL f g (R mi) by simp [newR]] at c2 hrg
      have hB3 : Below w.heap.size w (w2.drewN m1) := below_drewN hB2 m1
      have hnn := HN.out mi hmi
      rw [if_pos rfl] at hnn
      have hrw := hrw.drewN m1
      have hrg := hrg.drewN m1
      have c1' : (w2.drewN m1).cell? ⟨N0, mi, none⟩ = some (.slice (V mi) (R mi).length (R mi).length) := c1
      have c2' : (w2.drewN m1).cell? ⟨N, mi, none⟩ = some (.slice (V2 mi) (remL f g (R mi)).length (remL f g (R mi)).length) := c2
      clear c1 c2 hB2 hrng1 hrng2 HN HL
      generalize w2.drewN m1 = w3 at *
      generalize V mi = A0 at *
      generalize V2 mi = A1 at *
      generalize R mi = xs at *
      have HNN : Hid (A1 = none ↔ remL f g xs = []) := hnn
      clear hnn
      go_wp2_with fail
      refine (clip_any _ A0 xs f g _ hfg hrw HW.out hLm).mono ?_
      rintro e w4 ⟨v, rfl, hC⟩
      obtain ⟨Aw, cw, hv, hPw, hnw, hbw⟩ := hC.own.prs
      subst hv
      have hbel := hC.below
      have d1 : w4.cell? ⟨N0, mi, none⟩ = some (.slice A0 xs.length xs.length) := by rw [hbel.cell (cell_lt c1')]; exact c1'
      have d2 : w4.cell? ⟨N, mi, none⟩ = some (.slice A1 (remL f g xs).length (remL f g xs).length) := by rw [hbel.cell (cell_lt c2')]; exact c2'
      have hrw4 := hrw.below hbel
      have hrg4 := hrg.below hbel
      have hB4 : Below w.heap.size w w4 := hB3.trans (hbel.mono hB3.size)
      clear hC hbel c1' c2' hrw hrg hB3 hnw hbw
      go_wp2_with fail
      refine (same_true A1 Aw _ cw (remL f g xs) w4 hrg4 hPw (by omega)).mono ?_
      rintro e w' ⟨rfl, m4, rfl⟩
      have hB5 : Below w.heap.size w (w4.drewN m4) := below_drewN hB4 m4
      have hrw5 := hrw4.drewN m4
      have f1 : (w4.drewN m4).cell? ⟨N0, mi, none⟩ = some (.slice A0 xs.length xs.length) := d1
      have f2 : (w4.drewN m4).cell? ⟨N, mi, none⟩ = some (.slice A1 (remL f g xs).length (remL f g xs).length) := d2
      clear d1 d2 hrw4 hrg4 hPw hB4
      generalize w4.drewN m4 = w5 at *
      generalize remL f g xs = ys at *
      have hcases : (A1 = none ∧ ((ys.length : Int) == 0) = true) ∨ (∃ x, A1 = some x ∧ ((ys.length : Int) == 0) = false) := by
        cases hA1 : A1 with
        | none =>
          have := HNN.out.1 hA1
          subst this
          exact Or.inl ⟨rfl, rfl⟩
        | some x =>
          refine Or.inr ⟨x, rfl, ?_⟩
          cases ys with
          | nil => exact absurd (HNN.out.2 rfl) (by rw [hA1]; simp)
          | cons y ys => simp; omega
      clear HNN
      rcases hcases with ⟨rfl, hl0⟩ | ⟨x, rfl, hl0⟩
      all_goals
        go_wp2_with fail
        clear hk hlt hl0 heq f2
        go_loopg [13, 14] xs.length (fun gk hv i wr => (∃ m, wr = w5.drewN m) ∧ ∃ (k : Nat) (h : Bool), k ≤ xs.length ∧ gk = xs.length - k ∧ i = .int .i64 k ∧ hv = .bool h ∧ (h = true ↔ False ∨ ∃ i, i < k ∧ Tch f g (fa xs i, sa xs i)))
        case atStart => exact ⟨⟨0, rfl⟩, 0, false, Nat.zero_le _, rfl, rfl, rfl, by simp⟩
        case round =>
          obtain ⟨⟨m6, hm6⟩, k6, h, hk, rfl, rfl, rfl, hh⟩ := hrel
          have HM : Hid (wr = w5.drewN m6) := hm6
          have HH : Hid (h = true ↔ False ∨ ∃ i, i < k6 ∧ Tch f g (fa xs i, sa xs i)) := hh
          clear hh
          have g1 : wr.cell? ⟨N0, mi, none⟩ = some (.slice A0 xs.length xs.length) := by rw [hm6]; exact f1
          by_cases hlt : k6 < xs.length
          · obtain ⟨bb, oo, rfl, p0, p1⟩ := hrw5 k6 hlt
            have q0 : wr.cell? ⟨bb, oo + k6 * 2, none⟩ = some (.int .i64 (fa xs k6)) := by rw [hm6]; exact p0
            have q1 : wr.cell? ⟨bb, oo + k6 * 2 + 1, none⟩ = some (.int .i64 (sa xs k6)) := by rw [hm6]; exact p1
            clear hm6 p0 p1
            by_cases htc : Tch f g (fa xs k6, sa xs k6)
            · have HTT := hide (fun w => touched_is (fa xs k6) (sa xs k6) f g true (by simp [htc]) w)
              have HTC := hide htc
              clear htc
              go_wp2_with fail
              go_quiet ((go_at_call 12; exact Calls.quiet_of_same (HTT.out _)))
              go_wp2_with fail
              go_roundg (xs.length - (k6 + 1))
              case measure => omega
              case rel => exact ⟨by rw [HM.out]; exact dr2 _ _ _, k6 + 1, true, by omega, rfl, by go_num, rfl, ex_yes (P := fun i => Tch f g (fa xs i, sa xs i)) HTC.out⟩
            · have HTT := hide (fun w => touched_is (fa xs k6) (sa xs k6) f g false (by simp [htc]) w)
              have HTC := hide htc
              clear htc
              go_wp2_with fail
              go_quiet ((go_at_call 12; exact Calls.quiet_of_same (HTT.out _)))
              go_wp2_with fail
              go_roundg (xs.length - (k6 + 1))
              case measure => omega
              case rel => exact ⟨by rw [HM.out]; exact dr2 _ _ _, k6 + 1, h, by omega, rfl, by go_num, rfl, ex_no (P := fun i => Tch f g (fa xs i, sa xs i)) HTC.out HH.out⟩
          · have e6 : k6 = xs.length := by omega
            subst e6
            clear hm6
            have hth : t = h := bool_eq_of HCH.out ((HH.out.trans (by simp)).trans (touch_idx xs).symm)
            subst hth
            go_wp2_with fail
            go_ret
            exact ⟨by simp, by rw [HM.out]; exact below_drewN hB5 _⟩
end Go.Proofs.Qxb6604105a
