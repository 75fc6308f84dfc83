import Derived.Test.Qxb6605302aDec
namespace Go.Proofs.Qxb6605302a
open Go.RowKit
set_option linter.unusedVariables false
set_option linter.unusedSimpArgs false

theorem esc_split (l : List UInt8) (k : Nat) (h : k < l.length) : esc l = esc (l.take k) ++ ((escB l[k].toNat).map Nat.toUInt8 ++ esc (l.drop (k + 1))) := by
  rw [← esc_cons, ← esc_app, ← List.drop_eq_getElem_cons h, List.take_append_drop]

theorem get_out (out : ByteArray) (i : Nat) (h : i < out.size) : out.data.toList[i]? = some out[i] := by
  rw [List.getElem?_eq_getElem (by rw [← sz]; exact h)]; rfl

theorem out_len (s out : ByteArray) (ho : out.data.toList = esc s.data.toList) (k : Nat) (h : k < s.size) :
    (esc (s.data.toList.take k)).length + (escB s[k].toNat).length ≤ out.size := by
  have e := esc_split s.data.toList k (by rw [← sz]; exact h)
  have e2 := congrArg List.length e
  rw [← ho, ← sz, List.length_append, List.length_append, List.length_map] at e2
  have : s.data.toList[k]'(by rw [← sz]; exact h) = s[k] := rfl
  rw [this] at e2
  omega

theorem out_at (s out : ByteArray) (ho : out.data.toList = esc s.data.toList) (k : Nat) (h : k < s.size) (p : Nat) (hp : p = (esc (s.data.toList.take k)).length) (j : Nat) (hj : j < (escB s[k].toNat).length)
    (hb : p + j < out.size) (hB : (escB s[k].toNat)[j] < 256) : out[p + j].toNat = (escB s[k].toNat)[j] := by
  have g := get_out out (p + j) hb
  rw [ho, esc_split s.data.toList k (by rw [← sz]; exact h), List.getElem?_append_right (by omega), List.getElem?_append_left (by rw [List.length_map]; show _ < (escB s[k].toNat).length; omega)] at g
  have e : p + j - (esc (s.data.toList.take k)).length = j := by omega
  rw [e, List.getElem?_map] at g
  have e3 : (escB (s.data.toList[k]'(by rw [← sz]; exact h)).toNat)[j]? = some ((escB s[k].toNat)[j]) := List.getElem?_eq_getElem hj
  rw [e3] at g
  simp only [Option.map_some, Option.some.injEq] at g
  rw [← g, Lib.toUInt8_toNat hB]

theorem escB_U (n : Nat) (h : isU n = true) : escB n = [n] := by simp [escB, h]
theorem escB_N (n : Nat) (h : isU n = false) : escB n = [37, hexN (n / 16), hexN (n % 16)] := by simp [escB, h]

theorem at_U (s out : ByteArray) (ho : out.data.toList = esc s.data.toList) (k : Nat) (h : k < s.size) (p : Nat) (hp : p = (esc (s.data.toList.take k)).length) (hu : isU s[k].toNat = true) :
    ∃ hb : p < out.size, out[p].toNat = s[k].toNat := by
  have e := escB_U _ hu
  have hl := out_len s out ho k h
  rw [e] at hl
  have hb : p + 0 < out.size := by simp at hl; omega
  have hlt : s[k].toNat < 256 := s[k].toNat_lt
  have g := out_at s out ho k h p hp 0 (by rw [e]; simp) hb (by simp only [e]; exact hlt)
  simp only [e] at g
  exact ⟨hb, g⟩

theorem at_N (s out : ByteArray) (ho : out.data.toList = esc s.data.toList) (k : Nat) (h : k < s.size) (p : Nat) (hp : p = (esc (s.data.toList.take k)).length) (hu : isU s[k].toNat = false) :
    ∃ hb : p + 2 < out.size, out[p].toNat = 37 ∧ out[p + 1].toNat = hexN (s[k].toNat / 16) ∧ out[p + 2].toNat = hexN (s[k].toNat % 16) := by
  have e := escB_N _ hu
  have hl := out_len s out ho k h
  rw [e] at hl
  have hb : p + 2 < out.size := by simp at hl; omega
  have hlt : s[k].toNat < 256 := s[k].toNat_lt
  have h1 := hexN_lt (s[k].toNat / 16) (by omega)
  have h2 := hexN_lt (s[k].toNat % 16) (by omega)
  have g0 := out_at s out ho k h p hp 0 (by rw [e]; simp) (by omega) (by simp [e])
  have g1 := out_at s out ho k h p hp 1 (by rw [e]; simp) (by omega) (by simp only [e]; exact h1)
  have g2 := out_at s out ho k h p hp 2 (by rw [e]; simp) (by omega) (by simp only [e]; exact h2)
  simp only [e] at g0 g1 g2
  exact ⟨hb, g0, g1, g2⟩

theorem unres_at (F : Int) (n : Nat) (hF : F = (n : Int)) (h : n < 256) (w : World) : Calls Try.prog 9 #[.int .u8 F] w fun e w' => e = .returned (.bool (isU n)) ∧ w' = w := by
  subst hF
  exact unres_any n h w
theorem hex_ix (F : Int) (m : Nat) (hm : m < 16) (hn : F = (hexN m : Int)) (w : World) : Calls Try.prog 8 #[.int .u8 F] w fun e w' => e = .returned (.int .i64 (m : Int)) ∧ w' = w := by
  subst hn
  exact hex_any m _ hm rfl w

theorem below_drewN {B : Nat} {a w : World} (h : Below B a w) (m : Nat) : Below B a (w.drewN m) := ⟨h.os, h.tape, h.output, h.size, h.block⟩

set_option maxRecDepth 100000 in
set_option maxHeartbeats 2000000 in
theorem law3 (s : ByteArray) (w : World) (ha : s.size ≤ maxLen) :
    Calls Try.prog 3 #[.string s] w fun e w' => e = .returned (.bool true) ∧ Below w.heap.size w w' := by
  go_enter Try.func3, Try.ntmps3
  go_wp2_with fail
  refine (bytes6_any s w ha).mono ?_
  rintro e w' ⟨⟨t, rfl, hsum⟩, hw⟩
  rw [hw]
  clear hw w'
  cases t
  case false =>
    go_wp2_with fail
    go_ret
    exact ⟨rfl, Below.refl _ _⟩
  have hs := hsum rfl
  clear hsum ha
  have d1 : decide ((1048576 : Int) < (s.size : Int)) = false := by simp; omega
  go_wp2_with fail
  refine (zzEscape_any s w (by omega)).mono ?_
  rintro e w1 ⟨rfl, hb1⟩
  obtain ⟨out, hout⟩ : ∃ out : ByteArray, out = ⟨(esc s.data.toList).toArray⟩ := ⟨_, rfl⟩
  rw [← hout]
  have HO : Hid (out.data.toList = esc s.data.toList) := hide (by rw [hout])
  clear hout
  have hol : out.size ≤ 4194304 := by
    have h1 := esc_len s.data.toList
    rw [sz, HO.out]
    rw [← sz] at h1
    omega
  have hmk := run_make_empty s.size hs
  have hR0 := rb_start w w1 s.size hs hb1
  go_wp2_with fail
  go_loopg [4, 5] s.size (fun g v i wr => ∃ k : Nat, k ≤ s.size ∧ g = s.size - k ∧ i = .int .i64 ((esc (s.data.toList.take k)).length : Nat) ∧ RB w wr v (s.data.toList.take k))
  case atStart => exact ⟨0, Nat.zero_le _, rfl, rfl, hR0⟩
  case round =>
    obtain ⟨k, hk, rfl, rfl, hR⟩ := hrel
    clear hmk hR0
    obtain ⟨p, hp⟩ : ∃ p, p = (esc (s.data.toList.take k)).length := ⟨_, rfl⟩
    rw [← hp]
    have HP := hide hp
    clear hp
    by_cases hlt : k < s.size
    · have hn : s[k].toNat < 256 := s[k].toNat_lt
      have hwsz := hR.below.size
      have HT : Hid (s.data.toList.take (k + 1) = s.data.toList.take k ++ [s[k]]) := hide (take_snoc s k hlt)
      have hle : (s.data.toList.take k).length ≤ k := List.length_take_le _ _
      have hR1 := fun o => hR.alloc o
      cases hu : isU s[k].toNat
      case true =>
        obtain ⟨hpb, hpe⟩ := at_U s out HO.out k hlt p HP.out hu
        have HE := hide hpe
        have hne := isU_ne _ hu
        have HU := hide hu
        have hq : ((out[p].toNat : Int) == 37) = false := by simp; omega
        clear hpe hu hne
        go_wp2_with fail
        refine (unres_at _ s[k].toNat (by rw [HE.out]) hn _).mono ?_
        rintro e w' ⟨rfl, hw⟩
        rw [hw, HU.out]
        clear hw w'
        go_wp2_with (at_builtin; refine wpList_appB _ (.tmp 68) (.tmp 70) s[k] _ w.heap.size (by omega) _ _ rfl rfl rfl rfl (hR1 _).own ?_ ?_ ?_)
        · rw [World.cell?_alloc_at _ _ _ _ (by simp)]; simp [bv, HE.out]
        · simp; omega
        · intro v1 w2 ho1 hg1
          have hR2 := (hR1 _).app hg1 ho1
          clear ho1 hg1 hR1
          go_wp2
          go_roundg (s.size - (k + 1))
          case measure => omega
          case rel =>
            have hl : (esc (s.data.toList.take (k + 1))).length = p + 1 := by rw [HT.out, esc_app, List.length_append, ← HP.out, esc_one, escB_U _ HU.out]; rfl
            exact ⟨k + 1, by omega, rfl, by rw [hl]; go_num, by rw [HT.out]; exact hR2⟩
      case false =>
        obtain ⟨hpb, hp0, hp1, hp2⟩ := at_N s out HO.out k hlt p HP.out hu
        have E1 := hide hp1
        have E2 := hide hp2
        have HU := hide hu
        obtain ⟨hi, hhi⟩ : ∃ hi, hi = s[k].toNat / 16 := ⟨_, rfl⟩
        obtain ⟨lo, hlo⟩ : ∃ lo, lo = s[k].toNat % 16 := ⟨_, rfl⟩
        have HN : Hid ((hi : Int) * 16 + (lo : Int) = (s[k].toNat : Int)) := hide (by omega)
        have hhi2 : hi < 16 := by omega
        have hlo2 : lo < 16 := by omega
        have HHI := hide hhi
        have HLO := hide hlo
        have hq : ((out[p].toNat : Int) == 37) = true := by simp; omega
        have hq2 : decide ((out.size : Int) ≤ (p : Int) + 2) = false := by simp; omega
        have hq3 : decide ((hi : Int) < 0) = false := by simp
        have hq4 : decide ((lo : Int) < 0) = false := by simp
        have hx1 : out[p + 1].toNat < 256 := out[p + 1].toNat_lt
        have hx2 : out[p + 2].toNat < 256 := out[p + 2].toNat_lt
        clear hp0 hp1 hp2 hu hhi hlo
        go_wp2_with fail
        refine (hex_ix _ hi hhi2 (by rw [HHI.out, ← E1.out]) _).mono ?_
        rintro e w' ⟨rfl, hw⟩
        rw [hw]
        clear hw w'
        go_wp2_with fail
        refine (hex_ix _ lo hlo2 (by rw [HLO.out, ← E2.out]) _).mono ?_
        rintro e w' ⟨rfl, hw⟩
        rw [hw]
        clear hw w'
        go_wp2_with fail
        refine (unres_at _ s[k].toNat HN.out hn _).mono ?_
        rintro e w' ⟨rfl, hw⟩
        rw [hw, HU.out]
        clear hw w'
        go_wp2_with (at_builtin; refine wpList_appB _ (.tmp 59) (.tmp 61) s[k] _ w.heap.size (by omega) _ _ rfl rfl rfl rfl (hR1 _).own ?_ ?_ ?_)
        · rw [World.cell?_alloc_at _ _ _ _ (by simp)]; simp [bv, HN.out]
        · simp; omega
        · intro v1 w2 ho1 hg1
          have hR2 := (hR1 _).app hg1 ho1
          clear ho1 hg1 hR1
          go_wp2
          go_roundg (s.size - (k + 1))
          case measure => omega
          case rel =>
            have hl : (esc (s.data.toList.take (k + 1))).length = p + 3 := by rw [HT.out, esc_app, List.length_append, ← HP.out, esc_one, escB_N _ HU.out]; rfl
            exact ⟨k + 1, by omega, rfl, by rw [hl]; go_num, by rw [HT.out]; exact hR2⟩
    · have hpo : p = out.size := by rw [HP.out, take_all s k (by omega), ← HO.out, ← sz]
      rw [take_all s k (by omega)] at hR
      have hb := hR.below
      subst hpo
      rcases hR.own.2 with ⟨hv, hl⟩ | ⟨g, cap, cur, hv, _⟩
      · rw [hv]
        rw [← sz] at hl
        clear hv hR
        go_wp2_with fail
        go_loopg [10] s.size (fun g i wr => Below w.heap.size w wr ∧ i = .int .i64 0)
        case atStart => exact ⟨hb, rfl⟩
        case round =>
          obtain ⟨hb', rfl⟩ := hrel
          go_wp2_with fail
          go_ret
          exact ⟨rfl, hb'⟩
      · have hO := hR.own
        rw [hv] at hO ⊢
        rw [← sz] at hO ⊢
        have hcell : ∀ j (h : j < s.size), World.cell? _ ⟨g, j, none⟩ = some (.int .u8 (s[j].toNat : Int)) := fun j h => hO.cellAt (by rw [← sz]; exact h)
        have hlen : cap ≤ maxLen ∧ s.size ≤ cap := by
          rcases hO.2 with ⟨h1, _⟩ | ⟨g', cap', cur', h1, _, hg, h2, h3, h4, htake⟩
          · cases h1
          · simp only [Value.slice.injEq, Option.some.injEq, Addr.mk.injEq, and_true, true_and] at h1
            rw [← sz] at h2
            rw [h1.2.2]
            exact ⟨h3, h2⟩
        clear hv hR hO
        go_wp2_with fail
        go_loopg [10] s.size (fun g' i wr => (Below w.heap.size w wr ∧ ∀ j (h : j < s.size), wr.cell? ⟨g, j, none⟩ = some (.int .u8 (s[j].toNat : Int))) ∧ ∃ k : Nat, k ≤ s.size ∧ g' = s.size - k ∧ i = .int .i64 k)
        case atStart => exact ⟨⟨hb, hcell⟩, 0, Nat.zero_le _, rfl, rfl⟩
        case round =>
          obtain ⟨⟨hb', hc'⟩, k2, hk2, rfl, rfl⟩ := hrel
          clear hcell hb
          have HC := hide hc'
          by_cases hlt2 : k2 < s.size
          · have hck := hc' k2 hlt2
            clear hc'
            go_wp2_with fail
            go_quiet (fail)
            go_wp2_with fail
            go_roundg (s.size - (k2 + 1))
            case measure => omega
            case rel => exact ⟨⟨below_drewN hb' _, fun j h => by rw [World.cell?_drewN]; exact HC.out j h⟩, k2 + 1, by omega, rfl, by go_num⟩
          · clear hc'
            go_wp2_with fail
            go_ret
            exact ⟨rfl, hb'⟩
end Go.Proofs.Qxb6605302a
