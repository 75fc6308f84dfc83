import Derived.Test.Qxb6604105aZZ
import Derived.Test.Qxb6604105aClone
namespace Go.Proofs.Qxb6604105a
open Go.RowKit Go.Deep
set_option linter.unusedVariables false
set_option linter.unusedSimpArgs false

theorem hide {p : Prop} (h : p) : Hid p := h

theorem bool_eq_of {t h : Bool} {p : Prop} (h1 : t = true ↔ p) (h2 : h = true ↔ p) : t = h := by
  cases t <;> cases h <;> simp_all

theorem ex_yes {P : Nat → Prop} {c : Prop} {k : Nat} (hp : P k) : (true = true ↔ c ∨ ∃ i, i < k + 1 ∧ P i) := ⟨fun _ => Or.inr ⟨k, by omega, hp⟩, fun _ => rfl⟩
theorem ex_no {P : Nat → Prop} {c : Prop} {k : Nat} {h : Bool} (hp : ¬ P k) (hh : h = true ↔ c ∨ ∃ i, i < k ∧ P i) : h = true ↔ c ∨ ∃ i, i < k + 1 ∧ P i := by
  rw [hh]
  constructor
  · rintro (h | ⟨i, hi, h⟩)
    · exact Or.inl h
    · exact Or.inr ⟨i, by omega, h⟩
  · rintro (h | ⟨i, hi, h⟩)
    · exact Or.inl h
    · by_cases e : i = k
      · subst e; exact absurd h hp
      · exact Or.inr ⟨i, by omega, h⟩

theorem ne_iff_touch {f g : Int} (h : f ≤ g) {xs : List (Int × Int)} (hv : Val xs) : remL f g xs ≠ xs ↔ ∃ p ∈ xs, Tch f g p := by
  rw [ne_eq, rem_changed h hv, Classical.not_not]

set_option maxRecDepth 100000 in
set_option maxHeartbeats 4000000 in
theorem law4 (A : Option Addr) (n cap : Nat) (msg f g : Int) (R : Nat → List (Int × Int)) (IA : Nat → Option Addr) (C : Nat → Nat) (w : World) (hR : Rng w A n R IA C) :
    Calls Try.prog 4 #[.slice A n cap, .int .i64 msg, .int .i64 f, .int .i64 g] w fun e w' => e = .returned (.bool true) ∧ Below w.heap.size w w' := by
  go_enter Try.func4, Try.ntmps4
  go_wp2_with fail
  refine (bytes13_any A n cap R IA C msg f g w hR).mono ?_
  rintro e w' ⟨⟨t, rfl⟩, hw⟩
  rw [hw]
  clear hw w'
  cases t
  · go_wp2
    go_ret
    exact ⟨rfl, Below.refl _ _⟩
  go_wp2_with fail
  refine (tooBig_any A n cap R IA C _ hR).mono ?_
  rintro e w' ⟨t, rfl, hw, hbig⟩
  rw [hw]
  clear hw w'
  cases t
  case true =>
    go_wp2
    go_ret
    exact ⟨rfl, Below.refl _ _⟩
  obtain ⟨hn2, hL⟩ := hbig rfl
  have HL : Hid (∀ i, i < n → (R i).length ≤ 65536) := hL
  clear hL hbig
  by_cases hm0 : msg < 0
  · go_wp2_with fail
    go_ret
    exact ⟨rfl, Below.refl _ _⟩
  by_cases hm1 : (n : Int) ≤ msg
  · have hdd : decide (msg < 0) = false := by simpa using hm0
    go_wp2_with fail
    go_ret
    exact ⟨rfl, Below.refl _ _⟩
  obtain ⟨mi, rfl⟩ : ∃ m : Nat, msg = (m : Int) := ⟨msg.toNat, by omega⟩
  have hmi : mi < n := by omega
  have hdd : decide ((mi : Int) < 0) = false := by simp
  clear hm0 hm1
  by_cases hfg : f ≤ g
  case neg =>
    go_wp2_with fail
    go_ret
    exact ⟨rfl, Below.refl _ _⟩
  obtain ⟨b, off, rfl, hc⟩ := hR.cell mi hmi
  have hrow := hR.row mi hmi
  have hLm := HL.out mi hmi
  go_wp2_with fail
  refine (wf_any (IA mi) (C mi) (R mi) _ hrow (by omega)).mono ?_
  rintro e w' ⟨t, rfl, hwf, m, rfl⟩
  cases t
  case false =>
    clear hwf
    go_wp2_with fail
    go_ret
    exact ⟨rfl, below_drewN (Below.refl _ _) m⟩
  have HW : Hid (WF (R mi)) := hwf.1 rfl
  have hB0 : Below w.heap.size w (w.drewN m) := below_drewN (Below.refl _ _) m
  have hR0 := hR.below hB0
  clear hwf hc hrow hR
  generalize w.drewN m = w0 at hB0 hR0 ⊢
  go_wp2_with fail
  refine (clone_any _ n cap R IA C w0 hR0 (by omega) hn2 (fun i hi => by have := HL.out i hi; omega)).mono ?_
  rintro e w1 ⟨rfl, V, hT⟩
  have hrng := hT.rng hR0.bare
  have hbel := hT.below
  obtain ⟨b1, off1, e1, hc⟩ := hrng.cell mi hmi
  cases e1
  have hB1 : Below w.heap.size w w1 := hB0.trans (hbel.mono hB0.size)
  rw [Nat.zero_add] at hc
  clear hbel hR0 hT
  generalize w0.heap.size = N0 at hrng hc ⊢
  go_wp2_with fail
  refine (zz_any _ n n mi f g R V _ w1 hfg hrng hmi hn2 HL.out).mono ?_
  rintro e w2 ⟨t, N, V2, rfl, ht, hrng2, hnil2, hbel2⟩
  have hP0 := (hrng.row mi hmi).below hbel2
  have hP1 := hrng2.row mi hmi
  obtain ⟨b1, off1, e1, hc2⟩ := hrng2.cell mi hmi
  cases e1
  rw [Nat.zero_add] at hc2
  have hB2 : Below w.heap.size w w2 := hB1.trans (hbel2.mono hB1.size)
  rw [show newR mi f g R mi = remL f g (R mi) by simp [newR]] at hP1 hc2
  have HCH : Hid (t = true ↔ ∃ p ∈ R mi, Tch f g p) := ht.trans (ne_iff_touch hfg (wf_val HW.out))
  have HW2 : Hid (WF (remL f g (R mi))) := rem_wf hfg HW.out
  have HCV : Hid (∀ x, Cov (remL f g (R mi)) x ↔ Cov (R mi) x ∧ ¬ (f ≤ x ∧ x < g)) := rem_cov hfg (R mi)
  have hly : (remL f g (R mi)).length ≤ 131072 := by
    have := remL_len f g (R mi)
    omega
  clear ht hnil2 hbel2 hrng hrng2 hc
  generalize V mi = A0 at hP0 ⊢
  generalize V2 mi = A1 at hP1 hc2 ⊢
  generalize R mi = xs at *
  generalize remL f g xs = ys at *
  go_wp2_with fail
  refine (wf_any A1 _ ys _ hP1 (by omega)).mono ?_
  rintro e w' ⟨t', rfl, hwf, m', rfl⟩
  obtain rfl : t' = true := hwf.2 HW2.out
  have hP0' := hP0.drewN m'
  have hP1' := hP1.drewN m'
  have hB3 : Below w.heap.size w (w2.drewN m') := below_drewN hB2 m'
  clear hwf hc2 hP0 hP1 hB2
  generalize w2.drewN m' = w3 at hP0' hP1' hB3 ⊢
  have hpr : ∀ cap0 cap1 x, Calls Try.prog 15 #[.slice A0 xs.length cap0, .slice A1 ys.length cap1, .int .i64 x, .int .i64 f, .int .i64 g] w3 fun e w' => e = .returned (.bool true) ∧ w' = w3 :=
    fun cap0 cap1 x => probe_any A0 A1 cap0 cap1 xs ys x f g w3 hP0' hP1' HW.out HW2.out (by omega) (by omega) (HCV.out x)
  have HPR := hide hpr
  clear hpr
  go_wp2_with (go_at_call 15; refine (HPR.out _ _ _).mono ?_; rintro e w' ⟨rfl, hw⟩; rw [hw]; clear hw w')
  go_loopg [13] xs.length (fun gk i wr => w3 = wr ∧ ∃ k : Nat, k ≤ xs.length ∧ gk = xs.length - k ∧ i = .int .i64 k)
  case atStart => exact ⟨rfl, 0, Nat.zero_le _, rfl, rfl⟩
  case round =>
    obtain ⟨rfl, k, hk, rfl, rfl⟩ := hrel
    by_cases hlt : k < xs.length
    · obtain ⟨bb, oo, rfl, p0, p1⟩ := hP0' k hlt
      go_wp2_with (go_at_call 15; refine (HPR.out _ _ _).mono ?_; rintro e w' ⟨rfl, hw⟩; rw [hw]; clear hw w')
      go_roundg (xs.length - (k + 1))
      case measure => omega
      case rel => exact ⟨rfl, k + 1, by omega, rfl, by go_num⟩
    · go_wp2_with fail
      go_loopg [14] ys.length (fun gk i wr => w3 = wr ∧ ∃ k : Nat, k ≤ ys.length ∧ gk = ys.length - k ∧ i = .int .i64 k)
      case atStart => exact ⟨rfl, 0, Nat.zero_le _, rfl, rfl⟩
      case round =>
        clear hk hlt
        obtain ⟨rfl, k2, hk, rfl, rfl⟩ := hrel
        by_cases hlt : k2 < ys.length
        · obtain ⟨bb, oo, rfl, p0, p1⟩ := hP1' k2 hlt
          go_wp2_with (go_at_call 15; refine (HPR.out _ _ _).mono ?_; rintro e w' ⟨rfl, hw⟩; rw [hw]; clear hw w')
          go_roundg (ys.length - (k2 + 1))
          case measure => omega
          case rel => exact ⟨rfl, k2 + 1, by omega, rfl, by go_num⟩
        · by_cases hfl : f < g
          · go_wp2_with fail
            refine (covered_any A0 _ xs f _ hP0' HW.out (by omega)).mono ?_
            rintro e w' ⟨tc, rfl, htc, hw⟩
            rw [hw]
            clear hw w'
            have HTC : Hid (tc = true ↔ Cov xs f) := htc
            clear htc
            cases tc
            all_goals
              go_wp2_with fail
              go_loopg [15, 16] xs.length (fun gk hv i wr => w3 = wr ∧ ∃ (k : Nat) (h : Bool), k ≤ xs.length ∧ gk = xs.length - k ∧ i = .int .i64 k ∧ hv = .bool h ∧ (h = true ↔ Cov xs f ∨ ∃ i, i < k ∧ (f ≤ fa xs i ∧ fa xs i < g)))
              case atStart => exact ⟨rfl, 0, _, Nat.zero_le _, rfl, rfl, rfl, (by have := HTC.out; simpa using this)⟩
              case round =>
                clear hk hlt
                obtain ⟨rfl, k3, h, hk, rfl, rfl, rfl, hh⟩ := hrel
                have HHH : Hid (h = true ↔ Cov xs f ∨ ∃ i, i < k3 ∧ (f ≤ fa xs i ∧ fa xs i < g)) := hh
                clear hh
                by_cases hlt : k3 < xs.length
                · obtain ⟨bb, oo, rfl, p0, p1⟩ := hP0' k3 hlt
                  by_cases h1 : f ≤ fa xs k3
                  · by_cases h2 : fa xs k3 < g
                    · go_wp2_with fail
                      go_roundg (xs.length - (k3 + 1))
                      case measure => omega
                      case rel => exact ⟨rfl, k3 + 1, true, by omega, rfl, by go_num, rfl, ex_yes (P := fun i => f ≤ fa xs i ∧ fa xs i < g) ⟨h1, h2⟩⟩
                    · go_wp2_with fail
                      go_roundg (xs.length - (k3 + 1))
                      case measure => omega
                      case rel => exact ⟨rfl, k3 + 1, h, by omega, rfl, by go_num, rfl, ex_no (P := fun i => f ≤ fa xs i ∧ fa xs i < g) (fun hh => by omega) HHH.out⟩
                  · have hdd3 : decide (f ≤ fa xs k3) = false := by simpa using h1
                    go_wp2_with fail
                    go_roundg (xs.length - (k3 + 1))
                    case measure => omega
                    case rel => exact ⟨rfl, k3 + 1, h, by omega, rfl, by go_num, rfl, ex_no (P := fun i => f ≤ fa xs i ∧ fa xs i < g) (fun hh => by omega) HHH.out⟩
                · have e3 : k3 = xs.length := by omega
                  subst e3
                  have hth : t = h := bool_eq_of HCH.out (HHH.out.trans (hit_pos hfl HW.out).symm)
                  subst hth
                  go_wp2_with fail
                  go_ret
                  exact ⟨by simp, hB3⟩
          · go_wp2_with fail
            go_loopg [15, 17] xs.length (fun gk hv i wr => w3 = wr ∧ ∃ (k : Nat) (h : Bool), k ≤ xs.length ∧ gk = xs.length - k ∧ i = .int .i64 k ∧ hv = .bool h ∧ (h = true ↔ False ∨ ∃ i, i < k ∧ (fa xs i < f ∧ f < sa xs i)))
            case atStart => exact ⟨rfl, 0, _, Nat.zero_le _, rfl, rfl, rfl, ⟨fun h => (by cases h), fun h => h.elim False.elim (fun ⟨i, hi, _⟩ => absurd hi (Nat.not_lt_zero _))⟩⟩
            case round =>
              clear hk hlt
              obtain ⟨rfl, k3, h, hk, rfl, rfl, rfl, hh⟩ := hrel
              have HHH : Hid (h = true ↔ False ∨ ∃ i, i < k3 ∧ (fa xs i < f ∧ f < sa xs i)) := hh
              clear hh
              by_cases hlt : k3 < xs.length
              · obtain ⟨bb, oo, rfl, p0, p1⟩ := hP0' k3 hlt
                by_cases h1 : fa xs k3 < f
                · by_cases h2 : f < sa xs k3
                  · go_wp2_with fail
                    go_roundg (xs.length - (k3 + 1))
                    case measure => omega
                    case rel => exact ⟨rfl, k3 + 1, true, by omega, rfl, by go_num, rfl, ex_yes (P := fun i => fa xs i < f ∧ f < sa xs i) ⟨h1, h2⟩⟩
                  · go_wp2_with fail
                    go_roundg (xs.length - (k3 + 1))
                    case measure => omega
                    case rel => exact ⟨rfl, k3 + 1, h, by omega, rfl, by go_num, rfl, ex_no (P := fun i => fa xs i < f ∧ f < sa xs i) (fun hh => by omega) HHH.out⟩
                · have hdd3 : decide (fa xs k3 < f) = false := by simpa using h1
                  go_wp2_with fail
                  go_roundg (xs.length - (k3 + 1))
                  case measure => omega
                  case rel => exact ⟨rfl, k3 + 1, h, by omega, rfl, by go_num, rfl, ex_no (P := fun i => fa xs i < f ∧ f < sa xs i) (fun hh => by omega) HHH.out⟩
              · have e3 : k3 = xs.length := by omega
                subst e3
                have hth : t = h := bool_eq_of HCH.out ((HHH.out.trans (by simp)).trans (hit_zero (by omega) HW.out).symm)
                subst hth
                go_wp2_with fail
                go_ret
                exact ⟨by simp, hB3⟩
end Go.Proofs.Qxb6604105a
