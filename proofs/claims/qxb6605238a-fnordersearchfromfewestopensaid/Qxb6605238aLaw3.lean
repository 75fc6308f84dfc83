import Derived.Test.Qxb6605238aLawP
import Derived.Deep.Cut
import Derived.Deep.CutRange
import Derived.Deep.CutBlock
namespace Go.Proofs.Qxb6605238a
open Go.RowKit Go.Deep
set_option linter.unusedVariables false
set_option linter.unusedSimpArgs false

set_option maxRecDepth 100000 in
set_option maxHeartbeats 8000000 in
theorem law3 (A0 A1 A2 A3 A4 A5 A8 : Option Addr) (c0 c1 c2 c3 c4 c5 c8 n n1 n2 n3 n4 n5 n8 : Nat) (zz : Nat → List Int) (tk is : Nat → Bool) (r0 cl ne orr : Nat → Int) (wk st : Int) (w : World)
    (hZ : NbZ w A0 n zz) (h1 : Cells w A1 n1 (fun i => .bool (tk i))) (h2 : Cells w A2 n2 (fun i => .int .i64 (r0 i))) (h3 : Cells w A3 n3 (fun i => .int .i64 (cl i))) (h4 : Cells w A4 n4 (fun i => .int .i64 (ne i))) (h5 : Cells w A5 n5 (fun i => .bool (is i))) (h8 : Cells w A8 n8 (fun i => .int .i64 (orr i)))
    (e4 : A4 = none → n4 = 0 ∧ c4 = 0) (e8 : A8 = none → n8 = 0 ∧ c8 = 0) :
    Calls Try.prog 3 #[.slice A0 n c0, .slice A1 n1 c1, .slice A2 n2 c2, .slice A3 n3 c3, .slice A4 n4 c4, .slice A5 n5 c5, .int .i64 wk, .int .i64 st, .slice A8 n8 c8] w fun e w' => e = .returned (.bool true) ∧ Below w.heap.size w w' := by
  have HZ := hide hZ
  have E4 := hide e4
  have E8 := hide e8
  clear hZ e4 e8
  go_enter Try.func3, Try.ntmps3
  go_wp2_with fail
  refine (bytes5_any A0 n c0 zz w HZ.out wk st A1 A2 A3 A4 A5 A8 n1 c1 n2 c2 n3 c3 n4 c4 n5 c5 n8 c8).mono ?_
  rintro e w' ⟨t, rfl, hw⟩
  rw [hw]
  clear hw w'
  cases t
  · go_wp2_with fail
    go_ret
    exact ⟨rfl, Below.refl _ _⟩
  by_cases g0 : n ≤ 4096
  case neg =>
    have q0 : decide ((4096 : Int) < (n : Int)) = true := by simp; omega
    go_wp2_with fail
    go_ret
    exact ⟨rfl, Below.refl _ _⟩
  have q0 : decide ((4096 : Int) < (n : Int)) = false := by simp; omega
  by_cases g1 : n1 ≤ 65536
  case neg =>
    have q1 : decide ((65536 : Int) < (n1 : Int)) = true := by simp; omega
    go_wp2_with fail
    go_ret
    exact ⟨rfl, Below.refl _ _⟩
  have q1 : decide ((65536 : Int) < (n1 : Int)) = false := by simp; omega
  by_cases g2 : n2 ≤ 65536
  case neg =>
    have q2 : decide ((65536 : Int) < (n2 : Int)) = true := by simp; omega
    go_wp2_with fail
    go_ret
    exact ⟨rfl, Below.refl _ _⟩
  have q2 : decide ((65536 : Int) < (n2 : Int)) = false := by simp; omega
  by_cases g3 : n3 ≤ 65536
  case neg =>
    have q3 : decide ((65536 : Int) < (n3 : Int)) = true := by simp; omega
    go_wp2_with fail
    go_ret
    exact ⟨rfl, Below.refl _ _⟩
  have q3 : decide ((65536 : Int) < (n3 : Int)) = false := by simp; omega
  by_cases g4 : n4 ≤ 65536
  case neg =>
    have q4 : decide ((65536 : Int) < (n4 : Int)) = true := by simp; omega
    go_wp2_with fail
    go_ret
    exact ⟨rfl, Below.refl _ _⟩
  have q4 : decide ((65536 : Int) < (n4 : Int)) = false := by simp; omega
  by_cases g5 : n5 ≤ 65536
  case neg =>
    have q5 : decide ((65536 : Int) < (n5 : Int)) = true := by simp; omega
    go_wp2_with fail
    go_ret
    exact ⟨rfl, Below.refl _ _⟩
  have q5 : decide ((65536 : Int) < (n5 : Int)) = false := by simp; omega
  by_cases g8 : n8 ≤ 65536
  case neg =>
    have q8 : decide ((65536 : Int) < (n8 : Int)) = true := by simp; omega
    go_wp2_with fail
    go_ret
    exact ⟨rfl, Below.refl _ _⟩
  have q8 : decide ((65536 : Int) < (n8 : Int)) = false := by simp; omega
  go_wp2_with fail
  clear q0 q1 q2 q3 q4 q5 q8
  go_loopg [19, 20] n (fun g z i wr => w = wr ∧ ∃ k s : Nat, k ≤ n ∧ s ≤ 65536 ∧ g = n - k ∧ i = .int .i64 k ∧ z = .int .i64 s ∧ Hid (∀ x, x < k → (zz x).length ≤ 65536))
  case atStart => exact ⟨rfl, 0, 0, Nat.zero_le _, Nat.zero_le _, rfl, rfl, rfl, hide (fun x hx => absurd hx (Nat.not_lt_zero _))⟩
  case round =>
    obtain ⟨rfl, k, s, hk, hs, rfl, rfl, rfl, HD⟩ := hrel
    by_cases hlt : k < n
    · obtain ⟨b, off, A', c', rfl, gz, _, _⟩ := HZ.out k hlt
      by_cases k1 : (zz k).length ≤ 65536
      · have p1 : decide ((65536 : Int) < ((zz k).length : Int)) = false := by simp; omega
        by_cases k2 : s + (zz k).length ≤ 65536
        · have p2 : decide ((65536 : Int) < (s : Int) + ((zz k).length : Int)) = false := by simp; omega
          go_wp2_with fail
          go_roundg (n - (k + 1))
          case measure => omega
          case rel =>
            refine ⟨rfl, k + 1, s + (zz k).length, by omega, k2, rfl, by go_num, by go_num, hide (fun x hx => ?_)⟩
            by_cases e : x = k
            · rw [e]; exact k1
            · exact HD.out x (by omega)
        · have p2 : decide ((65536 : Int) < (s : Int) + ((zz k).length : Int)) = true := by simp; omega
          go_wp2_with fail
          go_ret
          exact ⟨rfl, Below.refl _ _⟩
      · have p1 : decide ((65536 : Int) < ((zz k).length : Int)) = true := by simp; omega
        go_wp2_with fail
        go_ret
        exact ⟨rfl, Below.refl _ _⟩
    · have hkn : n = k := by omega
      subst hkn
      have hq9 : (∃ t : Bool, decide ((1048576 : Int) < 8 * ((n : Int) + (s : Int) + (n2 : Int) + (n3 : Int) + (n4 : Int) + (n8 : Int)) + (n1 : Int) + (n5 : Int)) = t) := ⟨_, rfl⟩
      obtain ⟨t, q9⟩ := hq9
      cases t
      case true =>
        go_wp2_with fail
        go_ret
        exact ⟨rfl, Below.refl _ _⟩
      by_cases k0 : n = 0
      · have p0 : ((n : Int) == 0) = true := by simp [k0]
        clear k0
        go_wp2_with fail
        go_ret
        exact ⟨rfl, Below.refl _ _⟩
      have p0 : ((n : Int) == 0) = false := by simp; omega
      by_cases k1 : st < 0
      · have p1 : decide (st < 0) = true := by simp [k1]
        go_wp2_with fail
        go_ret
        exact ⟨rfl, Below.refl _ _⟩
      have p1 : decide (st < 0) = false := by simp; omega
      by_cases k2 : (n : Int) ≤ st
      · have p2 : decide ((n : Int) ≤ st) = true := by simp [k2]
        go_wp2_with fail
        go_ret
        exact ⟨rfl, Below.refl _ _⟩
      have p2 : decide ((n : Int) ≤ st) = false := by simp; omega
      by_cases k3 : n ≤ n8
      · have p3 : decide ((n : Int) ≤ (n8 : Int)) = true := by simp [k3]
        have p3' : decide (n ≤ n8) = true := by simp [k3]
        go_wp2_with fail
        go_ret
        exact ⟨rfl, Below.refl _ _⟩
      have p3 : decide ((n : Int) ≤ (n8 : Int)) = false := by simp; omega
      have p3' : decide (n ≤ n8) = false := by simp; omega
      by_cases k4 : n1 < n
      · have p4 : decide ((n1 : Int) < (n : Int)) = true := by simp [k4]
        have p4' : decide (n1 < n) = true := by simp [k4]
        go_wp2_with fail
        go_ret
        exact ⟨rfl, Below.refl _ _⟩
      have p4 : decide ((n1 : Int) < (n : Int)) = false := by simp; omega
      have p4' : decide (n1 < n) = false := by simp; omega
      by_cases k5 : n2 < n
      · have p5 : decide ((n2 : Int) < (n : Int)) = true := by simp [k5]
        have p5' : decide (n2 < n) = true := by simp [k5]
        go_wp2_with fail
        go_ret
        exact ⟨rfl, Below.refl _ _⟩
      have p5 : decide ((n2 : Int) < (n : Int)) = false := by simp; omega
      have p5' : decide (n2 < n) = false := by simp; omega
      by_cases k6 : n3 < n
      · have p6 : decide ((n3 : Int) < (n : Int)) = true := by simp [k6]
        have p6' : decide (n3 < n) = true := by simp [k6]
        go_wp2_with fail
        go_ret
        exact ⟨rfl, Below.refl _ _⟩
      have p6 : decide ((n3 : Int) < (n : Int)) = false := by simp; omega
      have p6' : decide (n3 < n) = false := by simp; omega
      by_cases k7 : n5 < n
      · have p7 : decide ((n5 : Int) < (n : Int)) = true := by simp [k7]
        have p7' : decide (n5 < n) = true := by simp [k7]
        go_wp2_with fail
        go_ret
        exact ⟨rfl, Below.refl _ _⟩
      have p7 : decide ((n5 : Int) < (n : Int)) = false := by simp; omega
      have p7' : decide (n5 < n) = false := by simp; omega
      go_wp2_with fail
      clear q9 p0 p1 p2 p3 p3' p4 p4' p5 p5' p6 p6' p7 p7'
      refine (simple_any A0 n c0 zz w g0 HZ.out HD.out).mono ?_
      rintro e w1 ⟨⟨t, rfl, ht⟩, hb1⟩
      have HT := hide ht
      clear ht
      cases t
      case false =>
        go_wp2_with fail
        go_ret
        exact ⟨rfl, hb1⟩
      obtain ⟨start, rfl⟩ : ∃ start : Nat, st = start := ⟨st.toNat, by omega⟩
      have hst : start < n := by omega
      have hn8 : n8 < n := by omega
      have i1 : n ≤ n1 := by omega
      have i2 : n ≤ n2 := by omega
      have i3 : n ≤ n3 := by omega
      have i5 : n ≤ n5 := by omega
      have hnp : 0 < n := by omega
      clear k0 k1 k2 k3 k4 k5 k6 k7 hlt hk hs
      obtain ⟨b0, o0, _, _, rfl, -⟩ := HZ.out 0 hnp
      obtain ⟨b1, o1, rfl, -⟩ := h1 0 (by omega)
      obtain ⟨b2, o2, rfl, -⟩ := h2 0 (by omega)
      obtain ⟨b3, o3, rfl, -⟩ := h3 0 (by omega)
      obtain ⟨b5, o5, rfl, -⟩ := h5 0 (by omega)
      have hGZ := HT.out rfl
      have hG := adjz_gr hGZ
      have HEQ : Hid (∀ v, v < n → zz v = zl (adjz zz v)) := hide (fun v hv => adjz_eq hGZ hv)
      have HDD : Hid (∀ x, x < n → (adjz zz x).length ≤ 65536) := hide (fun x hx => by rw [adjz_len]; exact HD.out x hx)
      clear hGZ HT
      go_wp2_with fail
      refine (cloneNested_any _ n c0 zz w1 g0 (HZ.out.below hb1) HD.out).mono ?_
      rintro e w2 ⟨rfl, V, hCN⟩
      have hb2 := below_tr hb1 hb1.size hCN.below
      have hN2 := (hCN.congr HEQ.out).nb
      have hG2 := hCN.row.lt
      have hGlo := hb1.size
      clear hCN HEQ HZ HD
      generalize w1.heap.size = G at hN2 hG2 hGlo ⊢
      go_wp2_with fail
      refine (cloneBools8 _ c1 n1 tk w2 (h1.below hb2) (by omega)).mono ?_
      rintro e w3 ⟨rfl, hC3⟩
      have hb3 := below_tr hb2 hb2.size hC3.below
      go_wp2_with fail
      refine (cloneInts9 _ c2 n2 r0 w3 (h2.below hb3) (by omega)).mono ?_
      rintro e w4 ⟨rfl, hC4⟩
      have hb4 := below_tr hb3 hb3.size hC4.below
      go_wp2_with fail
      refine (cloneInts9 _ c3 n3 cl w4 (h3.below hb4) (by omega)).mono ?_
      rintro e w5 ⟨rfl, hC5⟩
      have hb5 := below_tr hb4 hb4.size hC5.below
      go_wp2_with fail
      refine (cloneInts9_any A4 c4 n4 ne w5 (h4.below hb5) (by omega) E4.out).mono ?_
      rintro e w6 ⟨A4', c4', rfl, hO6, hB6⟩
      have hb6 := below_tr hb5 hb5.size hB6
      go_wp2_with fail
      refine (cloneBools8 _ c5 n5 is w6 (h5.below hb6) (by omega)).mono ?_
      rintro e w7 ⟨rfl, hC7⟩
      have hb7 := below_tr hb6 hb6.size hC7.below
      go_wp2_with fail
      refine (cloneInts9_any A8 c8 n8 orr w7 (h8.below hb7) (by omega) E8.out).mono ?_
      rintro e w8 ⟨A8', c8', rfl, hO8, hB8⟩
      have hb8 := below_tr hb7 hb7.size hB8
      clear h1 h2 h3 h4 h5 h8 E4 E8
      have rR8 := rowB (rowB (rowB (rowB hC4.row hC5.below) hB6) hC7.below) hB8
      go_wp2_with fail
      refine (cloneInts9 _ n2 n2 r0 w8 (cells_of_row rR8) (by omega)).mono ?_
      rintro e w9 ⟨rfl, hC9⟩
      have hb9 := below_tr hb8 hb8.size hC9.below
      have hO89 := hO8.belowB hC9.below
      go_wp2_with fail
      refine (cloneOwn A8' c8' n8 _ _ w9 hO89 (by omega)).mono ?_
      rintro e w10 ⟨Ap, cp, rfl, hO10, hB10⟩
      have hb10 := below_tr hb9 hb9.size hB10
      have x3 := hC3.below
      have x4 := below_tr x3 x3.size hC4.below
      have x5 := below_tr x4 x4.size hC5.below
      have x6 := below_tr x5 x5.size hB6
      have x7 := below_tr x6 x6.size hC7.below
      have x8 := below_tr x7 x7.size hB8
      have x9 := below_tr x8 x8.size hC9.below
      have x10 := below_tr x9 x9.size hB10
      have hN10 := hN2.belowB x10
      obtain ⟨m, hm⟩ : ∃ m, n8 + m = n := ⟨n - n8, by omega⟩
      have hm0 : 0 < m := by omega
      have hsub : (n : Int) - (n8 : Int) = (m : Int) := by omega
      go_wp2_with fail
      refine (ref_any (adj := adjz zz) hG w10 start m hst hm0 (by omega) g0 hN10 HDD.out).mono ?_
      rintro e w11 ⟨wv, L, rfl, hOw, hRun, hLm, hB11⟩
      have hLz : (zl L).length = m := by rw [← hLm]; simp [zl]
      obtain ⟨wb, cw, rfl, -⟩ := own_slice hOw (by omega)
      rw [hLz] at hOw ⊢
      have hb11 := below_tr hb10 hb10.size hB11
      have x11 := below_tr x10 x10.size hB11
      have s3 := hC3.size
      have s4 := hC4.size
      have s5 := hC5.size
      have s6 := hB6.size
      have s7 := hC7.size
      have s8 := hB8.size
      have s9 := hC9.size
      have s10 := hB10.size
      have s11 := hB11.size
      have zl' := zz_law (adj := adjz zz) (n := n) (n1 := n1) (n2 := n2) (n3 := n3) (n4 := n4) (n5 := n5) (n8 := n8) (c4 := c4') (c8 := c8') (cp := cp) (m := m) wk start (tk := tk) (is := is) (r0 := r0) (cl := cl) (w0 := w) (w := w11)
        (B := w2.heap.size) (G := G) (T := w2.heap.size) (R := w3.heap.size) (C := w4.heap.size) (I := w6.heap.size) (wb := wb) (cw := cw) (rb := w8.heap.size) (E2 := w9.heap.size) (A4 := A4') (A8 := A8') (Ap := Ap) (L0 := L)
        hb11 hb2.size hG (hN10.belowB hB11) HDD.out hst hm hm0 (Nat.le_refl _) (by omega) (by omega) (by omega) (by omega) (by omega) (by omega) i1 i2 i3 i5 g1 g2 g3 g5
        (rowB hC3.row (below_tr (below_tr (below_tr (below_tr (below_tr (below_tr (below_tr hC4.below hC4.below.size hC5.below) (by omega) hB6) (by omega) hC7.below) (by omega) hB8) (by omega) hC9.below) (by omega) hB10) (by omega) hB11))
        (rowB (rowB (rowB rR8 hC9.below) hB10) hB11)
        (rowB (rowB (rowB (rowB (rowB (rowB hC5.row hB6) hC7.below) hB8) hC9.below) hB10) hB11)
        (rowB (rowB (rowB (rowB hC7.row hB8) hC9.below) hB10) hB11)
        ((((((hO6.belowB hC7.below).belowB hB8).belowB hC9.below).belowB hB10).belowB hB11).base (by omega))
        (fun k hk => by have := World.ownsRow.lt hO6 k hk; omega)
        (((hO89.belowB hB10).belowB hB11).base (by omega))
        (fun k hk => by have := World.ownsRow.lt hO8 k hk; omega)
        (rowB (rowB hC9.row hB10) hB11) (hO10.belowB hB11) (hOw.base (by omega)) hRun hLm
      clear hC3 hC4 hC5 hO6 hB6 hC7 hO8 hB8 rR8 hC9 hO89 hO10 hB10 hB11 hOw x3 x4 x5 x6 x7 x8 x9 x10 x11 s3 s4 s5 s6 s7 s8 s9 s10 s11 hN2 hN10 hb1 hb2 hb3 hb4 hb5 hb6 hb7 hb8 hb9 hb10 hb11 hG2 hGlo
      generalize w2.heap.size = T at zl' ⊢
      generalize w3.heap.size = R at zl' ⊢
      generalize w4.heap.size = C at zl' ⊢
      generalize w6.heap.size = I at zl' ⊢
      generalize w8.heap.size = rb at zl' ⊢
      generalize adjz zz = adj at hG HDD hRun zl' ⊢
      have hpl : ((List.range n8).map orr).length = n8 := by simp
      generalize (List.range n8).map orr = pre at hpl zl'
      have HR := hide hRun
      have HG := hide hG
      clear hRun hG
      go_wp2_with fail
      refine Calls.mono zl' ?_
      clear zl'
      rintro e W ⟨gb, gc, An, cn, NL, last, wk', rfl, hP, hlast, hNear⟩
      have HLast := hide hlast
      have HNear := hide hNear
      clear hlast hNear w2 w3 w4 w5 w6 w7 w8 w9 w10 w11
      as_aux_lemma =>
        have qq : ((n : Int) != (n : Int)) = false := by simp
        have qm : ((m : Int) != (m : Int)) = false := by simp
        go_wp2_with fail
        clear qq qm
        go_loopg [37] n8 (fun g i wr => Below W.heap.size W wr ∧ wr.heap.size = W.heap.size ∧ ∃ k : Nat, k ≤ n8 ∧ g = n8 - k ∧ i = .int .i64 k)
        case atStart => exact ⟨Below.refl _ _, rfl, 0, Nat.zero_le _, rfl, rfl⟩
        case round =>
          obtain ⟨hB, hsz, k, hk, rfl, rfl⟩ := hrel
          have hP' := hP.below hB
          by_cases hlt : k < n8
          · have q1 := hP'.got k (by omega)
            obtain ⟨bp, op, rfl, q2⟩ := hP'.prf k (by omega)
            rw [iz_app_left (by omega)] at q1
            dsimp only at q2
            generalize iz pre k = zk at q1 q2
            have q3 : (zk != zk) = false := by simp
            clear hP'
            go_wp2_with fail
            go_quiet (fail)
            go_wp2_with fail
            go_roundg (n8 - (k + 1))
            case measure => omega
            case rel => exact ⟨below_drewN hB _, hsz, k + 1, by omega, rfl, by go_num⟩
          · clear hP'
            go_wp2_with fail
            clear hk hlt
            go_loopg [38] m (fun g i wr => Below W.heap.size W wr ∧ wr.heap.size = W.heap.size ∧ ∃ k : Nat, k ≤ m ∧ g = m - k ∧ i = .int .i64 k)
            case atStart => exact ⟨hB, hsz, 0, Nat.zero_le _, rfl, rfl⟩
            case round =>
              rename_i wr0
              clear hB hsz
              obtain ⟨hB, hsz, j, hj, rfl, rfl⟩ := hrel
              have hP' := hP.below hB
              by_cases hlt : j < m
              · have q1 := hP'.got (n8 + j) (by omega)
                have q2 := hP'.want j (by omega)
                have q4 : iz (pre ++ zl L) (n8 + j) = ((L[j]'(by omega) : Nat) : Int) := by rw [← hpl, iz_app_right (by omega)]; simp [List.getD, show j < L.length by omega]
                rw [q4] at q1
                clear q4
                generalize L[j]'(by omega) = zk at q1 q2
                have q3 : ((zk : Int) != (zk : Int)) = false := by simp
                clear hP'
                go_wp2_with fail
                go_quiet (fail)
                go_wp2_with fail
                go_roundg (m - (j + 1))
                case measure => omega
                case rel => exact ⟨below_drewN hB _, hsz, j + 1, by omega, rfl, by go_num⟩
              · clear hP' hj
                have hmk := run_make_row' (P := Try.prog) 24 3 (.int .i64 0) 8 Try.underlying24 info3 rfl .i64 .i64 n (by omega) (by omega)
                have hmade := World.rowIs_made wr (.int .i64 0) n 3
                have hB2 := hB.alloc hB.size (.cells (madeCells #[.int .i64 0] n) 3)
                have hsz2 : (wr.alloc (.cells (madeCells #[.int .i64 0] n) 3)).heap.size = W.heap.size + 1 := by simp [hsz]
                rw [hsz] at hmade
                have hrowA := upto_zero (V := fun _ => Value.int .i64 n) hmade
                go_wp2_with fail
                clear hmk hmade hB hsz hlt
                generalize wr.alloc (.cells (madeCells #[.int .i64 0] n) 3) = W2 at hrowA hB2 hsz2 ⊢
                have HLL : Hid (L.length = m) := hide hLm
                go_loopg [40] n (fun g i wr => Below W.heap.size W wr ∧ wr.heap.size = W.heap.size + 1 ∧ ∃ k : Nat, k ≤ n ∧ g = n - k ∧ i = .int .i64 k ∧ wr.rowIs W.heap.size 3 n (upto k (fun _ => Value.int .i64 n) (.int .i64 0)))
                case atStart => exact ⟨hB2, hsz2, 0, Nat.zero_le _, rfl, rfl, hrowA⟩
                case round =>
                  clear hB2 hsz2 hrowA
                  obtain ⟨hB, hsz, k, hk, rfl, rfl, hrow⟩ := hrel
                  by_cases hlt : k < n
                  case pos =>
                    have c1 := upto_at hrow hlt
                    have c2 := hrow.frozen k
                    go_wp2_with fail
                    go_roundg (n - (k + 1))
                    case measure => omega
                    case rel => exact ⟨hB.setCell (Nat.le_refl _) _, by simp [hsz], k + 1, by omega, rfl, by go_num, upto_set (V := fun _ => Value.int .i64 n) hrow⟩
                  have hrow0 : wr.rowIs W.heap.size 3 n (fun j => .int .i64 ((ps n (L.take 0) j : Nat) : Int)) := by
                    have e : k = n := by omega
                    subst e
                    refine (upto_full hrow).congr fun j _ => ?_
                    simp [ps_nil]
                  clear hrow hk
                  go_wp2_with fail
                  clear hlt
                  go_loopg [41] m (fun g i wr => Below W.heap.size W wr ∧ wr.heap.size = W.heap.size + 1 ∧ ∃ k : Nat, k ≤ m ∧ g = m - k ∧ i = .int .i64 k ∧ wr.rowIs W.heap.size 3 n (fun j => .int .i64 ((ps n (L.take k) j : Nat) : Int)))
                  case atStart => exact ⟨hB, hsz, 0, Nat.zero_le _, rfl, rfl, hrow0⟩
                  case round =>
                    clear hB hsz hrow0
                    obtain ⟨hB, hsz, k, hk, rfl, rfl, hrow⟩ := hrel
                    by_cases hlt : k < m
                    case pos =>
                      have hkL : k < L.length := by rw [HLL.out]; exact hlt
                      have q2 := (hP.below hB).want k hkL
                      have hxn : L[k] < n := HR.out.rng _ (List.getElem_mem hkL)
                      have hnx := fun j => ps_next (n := n) HR.out.nd hkL j
                      have HNX := hide hnx
                      clear hnx
                      generalize L[k]'hkL = x at q2 hxn HNX
                      have c1 := hrow.cell hxn
                      have c2 := hrow.frozen x
                      have hr2 := (up_row (e := fun a : Nat => Value.int .i64 (a : Int)) hrow x k).congr fun j _ => by rw [HNX.out j]
                      go_wp2_with fail
                      go_roundg (m - (k + 1))
                      case measure => omega
                      case rel => exact ⟨hB.setCell (Nat.le_refl _) _, by simp [hsz], k + 1, by omega, rfl, by go_num, hr2⟩
                    have hrowP : wr.rowIs W.heap.size 3 n (fun j => .int .i64 ((ps n L j : Nat) : Int)) := by
                      have e : k = L.length := by rw [HLL.out]; omega
                      rw [e, List.take_length] at hrow
                      exact hrow
                    clear hrow hk
                    obtain ⟨m1, hm1⟩ : ∃ m1, m1 + 1 = m := ⟨m - 1, by omega⟩
                    have hmm : (m : Int) - 1 = (m1 : Int) := by omega
                    have hlc : wr.cell? ⟨wb, m1, none⟩ = some (.int .i64 (last : Int)) := by
                      have hl1 : m1 < L.length := by rw [HLL.out]; omega
                      rw [(hP.below hB).want m1 hl1]
                      have h2 := last_get HLast.out (by omega)
                      have e : m1 = L.length - 1 := by rw [HLL.out]; omega
                      subst e
                      rw [h2]
                    have hmk := run_make_row' (P := Try.prog) 23 4 (.bool false) 1 Try.underlying23 info4 rfl .i64 .i64 n (by omega) (by omega)
                    have hmade := World.rowIs_made wr (.bool false) n 4
                    have hB2 := hB.alloc hB.size (.cells (madeCells #[.bool false] n) 4)
                    have hsz2 : (wr.alloc (.cells (madeCells #[.bool false] n) 4)).heap.size = W.heap.size + 2 := by simp [hsz]
                    have hrp2 := hrowP.alloc (.cells (madeCells #[.bool false] n) 4)
                    rw [hsz] at hmade
                    have hrowA := hmade.congr (g := fun j => .bool (he adj L 0 j)) fun j _ => by unfold he; rw [if_neg (Nat.not_lt_zero _)]
                    go_wp2_with fail
                    clear hmk hmade hB hsz hrowP hlc hmm hm1 hlt
                    generalize wr.alloc (.cells (madeCells #[.bool false] n) 4) = W2 at hrowA hB2 hsz2 hrp2 ⊢
                    as_aux_lemma =>
                      obtain ⟨B0, hNb⟩ := hP.nb
                      go_loopg [44] n (fun g i wr => Below W.heap.size W wr ∧ wr.heap.size = W.heap.size + 2 ∧ wr.rowIs W.heap.size 3 n (fun j => .int .i64 ((ps n L j : Nat) : Int)) ∧ ∃ k : Nat, k ≤ n ∧ g = n - k ∧ i = .int .i64 k ∧ wr.rowIs (W.heap.size + 1) 4 n (fun j => .bool (he adj L k j)))
                      case atStart => exact ⟨hB2, hsz2, hrp2, 0, Nat.zero_le _, rfl, rfl, hrowA⟩
                      case round =>
                        clear hB2 hsz2 hrowA hrp2
                        obtain ⟨hB, hsz, hrp, k, hk, rfl, rfl, hrow⟩ := hrel
                        by_cases hlt : k < n
                        case pos =>
                          obtain ⟨A9, c9, hA9⟩ := hNb.getB hlt
                          have g9 := (hA9 wr hB).1
                          have HA9 := hide hA9
                          clear hA9
                          have hdk := HDD.out k hlt
                          have hr0 := hrow.congr (g := fun j => .bool (up (he adj L k) k (hE adj L k 0) j)) fun j _ => by rw [he_in]
                          go_wp2_with fail
                          clear g9
                          go_loopg [333] (adj k).length (fun g i wr => Below W.heap.size W wr ∧ wr.heap.size = W.heap.size + 2 ∧ wr.rowIs W.heap.size 3 n (fun j => .int .i64 ((ps n L j : Nat) : Int)) ∧ ∃ j : Nat, j ≤ (adj k).length ∧ g = (adj k).length - j ∧ i = .int .i64 j ∧ wr.rowIs (W.heap.size + 1) 4 n (fun i => .bool (up (he adj L k) k (hE adj L k j) i)))
                          case atStart => exact ⟨hB, hsz, hrp, 0, Nat.zero_le _, rfl, rfl, hr0⟩
                          case round =>
                            clear hB hsz hrp hrow hr0
                            obtain ⟨hB, hsz, hrp, j, hj, rfl, rfl, hrow⟩ := hrel
                            by_cases hjl : j < (adj k).length
                            case pos =>
                              obtain ⟨gb9, off9, rfl, hc1⟩ := (HA9.out wr hB).2 j hjl
                              obtain ⟨x, hx⟩ : ∃ x, (adj k)[j] = x := ⟨_, rfl⟩
                              have hxn : x < n := by rw [← hx]; exact HG.out.rng k hlt _ (List.getElem_mem hjl)
                              have NX := hide (hE_next (L := L) hjl hx)
                              rw [hx] at hc1
                              clear hx
                              have IB := hide (inL_bef (n := n) (L := L) (by rw [HLL.out]; omega) x k)
                              have px := hrp.cell hxn
                              have pk := hrp.cell hlt
                              have rc := hrow.cell hlt
                              have rf := hrow.frozen k
                              have hup := up_row (e := Value.bool) hrow k true
                              simp only [up_up] at hup
                              generalize ps n L x = X at px IB
                              generalize ps n L k = Y at pk IB
                              by_cases hXY : X < Y
                              case pos =>
                                have t1 : decide ((X : Int) < (Y : Int)) = true := by simp; omega
                                have t2 : decide (X < Y) = true := by simp; omega
                                have hE1 : Hid (hE adj L k (j + 1) = true) := hide (by rw [NX.out, IB.out, t2]; simp)
                                clear NX IB hrow
                                go_wp2_with fail
                                go_quiet (fail)
                                go_wp2_with fail
                                go_roundg ((adj k).length - (j + 1))
                                case measure => omega
                                case rel => exact ⟨(below_drewN hB _).setCell (Nat.le_succ _) _, by simp [hsz], hrp.setOther (by show _ ≠ W.heap.size + 1; omega) _, j + 1, by omega, rfl, by go_num, by rw [hE1.out]; exact hup⟩
                              have t1 : decide ((X : Int) < (Y : Int)) = false := by simp; omega
                              have t2 : decide (X < Y) = false := by simp; omega
                              have hE1 : Hid (hE adj L k (j + 1) = hE adj L k j) := hide (by rw [NX.out, IB.out, t2]; simp)
                              clear NX IB hup rc rf
                              go_wp2_with fail
                              go_quiet (fail)
                              go_wp2_with fail
                              go_roundg ((adj k).length - (j + 1))
                              case measure => omega
                              case rel => exact ⟨below_drewN hB _, hsz, hrp, j + 1, by omega, rfl, by go_num, by rw [hE1.out]; exact hrow⟩
                            have hr1 := hrow.congr (g := fun i => .bool (he adj L (k + 1) i)) fun i _ => by
                              have e : j = (adj k).length := by omega
                              rw [e, he_out]
                            clear hrow
                            go_wp2_with fail
                            go_roundg (n - (k + 1))
                            case measure => omega
                            case rel => exact ⟨hB, hsz, hrp, k + 1, by omega, rfl, by go_num, hr1⟩
                        have hre := hrow.congr (g := fun j => .bool (isn adj L j)) fun j hj => by
                          have e : k = n := by omega
                          subst e
                          unfold he
                          rw [if_pos hj]
                        clear hrow hk
                        have u1 : ((n1 : Int) != (n1 : Int)) = false := by simp
                        have u2 : ((n2 : Int) != (n2 : Int)) = false := by simp
                        have u3 : ((n3 : Int) != (n3 : Int)) = false := by simp
                        have u5 : ((n5 : Int) != (n5 : Int)) = false := by simp
                        go_wp2_with fail
                        clear hlt u1 u2 u3 u5
                        as_aux_lemma =>
                          obtain ⟨W5, rfl⟩ : ∃ W5, W5 = wr := ⟨_, rfl⟩
                          have hP5 := hP.below hB
                          clear hP hNb
                          obtain ⟨B1, hN5⟩ := hP5.nb
                          have hLn : L.length ≤ n := by rw [HLL.out]; omega
                          have HLn := hide hLn
                          clear hLn
                          go_loopg [47] n1 (fun g i wr => (∃ q, wr = W5.drewN q) ∧ ∃ k : Nat, k ≤ n1 ∧ g = n1 - k ∧ i = .int .i64 k)
                          case atStart => exact ⟨⟨0, rfl⟩, 0, Nat.zero_le _, rfl, rfl⟩
                          case round =>
                            obtain ⟨⟨q, rfl⟩, k, hk, rfl, rfl⟩ := hrel
                            by_cases hlt : k < n1
                            case pos =>
                              have r1 := hP5.rT.cell hlt
                              by_cases hkn : k < n
                              case pos =>
                                have t1 : decide ((k : Int) < (n : Int)) = true := by simp; omega
                                have t2 : decide (k < n) = true := by simp; omega
                                have r2 := hrp.cell hkn
                                by_cases hkL : k ∈ L
                                case pos =>
                                  have e1 : inL L k = true := inL_iff.2 hkL
                                  have e2 := (ps_lt_n HLn.out k).2 hkL
                                  rw [e1] at r1
                                  generalize ps n L k = X at r2 e2
                                  have t3 : decide ((X : Int) < (n : Int)) = true := by simp; omega
                                  have t4 : decide (X < n) = true := by simp; omega
                                  clear e1 e2 hkL
                                  go_wp2_with fail
                                  go_quiet (fail)
                                  go_wp2_with fail
                                  go_roundg (n1 - (k + 1))
                                  case measure => omega
                                  case rel => exact ⟨by first | exact ⟨_, rfl⟩ | exact dr2 _ _ _, k + 1, by omega, rfl, by go_num⟩
                                have e1 : inL L k = false := inL_false.2 hkL
                                have e2 := (ps_eq_n HLn.out k).2 hkL
                                rw [e1] at r1
                                rw [e2] at r2
                                have t3 : decide ((n : Int) < (n : Int)) = false := by simp
                                have t4 : decide (n < n) = false := by simp
                                clear e1 e2 hkL
                                go_wp2_with fail
                                go_quiet (fail)
                                go_wp2_with fail
                                go_roundg (n1 - (k + 1))
                                case measure => omega
                                case rel => exact ⟨by first | exact ⟨_, rfl⟩ | exact dr2 _ _ _, k + 1, by omega, rfl, by go_num⟩
                              have t1 : decide ((k : Int) < (n : Int)) = false := by simp; omega
                              have t2 : decide (k < n) = false := by simp; omega
                              have e1 : inL L k = false := inL_false.2 (fun h => hkn (HR.out.rng k h))
                              rw [e1] at r1
                              clear e1
                              go_wp2_with fail
                              go_quiet (fail)
                              go_wp2_with fail
                              go_roundg (n1 - (k + 1))
                              case measure => omega
                              case rel => exact ⟨by first | exact ⟨_, rfl⟩ | exact dr2 _ _ _, k + 1, by omega, rfl, by go_num⟩
                            go_wp2_with fail
                            clear hlt hk
                            go_loopg [48] n2 (fun g i wr => (∃ q, wr = W5.drewN q) ∧ ∃ k : Nat, k ≤ n2 ∧ g = n2 - k ∧ i = .int .i64 k)
                            case atStart => exact ⟨⟨q, rfl⟩, 0, Nat.zero_le _, rfl, rfl⟩
                            case round =>
                              obtain ⟨⟨q, rfl⟩, k, hk, rfl, rfl⟩ := hrel
                              by_cases hlt : k < n2
                              case pos =>
                                have r1 := hP5.rR.cell hlt
                                have r0k := hP5.rin.cell hlt
                                by_cases hkn : k < n
                                case pos =>
                                  have t1 : decide ((k : Int) < (n : Int)) = true := by simp; omega
                                  have t2 : decide (k < n) = true := by simp; omega
                                  have e1 : rsS n adj L r0 k = (cR adj L k (adj k).length : Int) := by unfold rsS; rw [if_pos hkn, cR_all]
                                  rw [e1] at r1
                                  clear e1
                                  obtain ⟨A9, c9, g9, hA9⟩ := hN5.get hkn
                                  have HA9 := hide hA9
                                  clear hA9
                                  have hdk := HDD.out k hkn
                                  go_wp2_with fail
                                  clear g9 r0k
                                  go_loopg [49, 410] (adj k).length (fun g cc i wr => (∃ q, wr = W5.drewN q) ∧ ∃ j : Nat, j ≤ (adj k).length ∧ g = (adj k).length - j ∧ i = .int .i64 j ∧ cc = .int .i64 (cR adj L k j))
                                  case atStart => exact ⟨⟨q, rfl⟩, 0, Nat.zero_le _, rfl, rfl, by rw [cR_zero]; rfl⟩
                                  case round =>
                                    obtain ⟨⟨q2, rfl⟩, j, hj, rfl, rfl, rfl⟩ := hrel
                                    have hcr := cR_le (adj := adj) (L := L) (v := k) (j := j)
                                    by_cases hjl : j < (adj k).length
                                    case pos =>
                                      obtain ⟨gb9, off9, rfl, hc1⟩ := HA9.out j hjl
                                      obtain ⟨x, hx⟩ : ∃ x, (adj k)[j] = x := ⟨_, rfl⟩
                                      have hxn : x < n := by rw [← hx]; exact HG.out.rng k hkn _ (List.getElem_mem hjl)
                                      have NX := hide (cR_next (L := L) hjl hx)
                                      rw [hx] at hc1
                                      clear hx
                                      have px := hrp.cell hxn
                                      by_cases hxL : x ∈ L
                                      case pos =>
                                        have e2 := (ps_lt_n HLn.out x).2 hxL
                                        have N2 : Hid (cR adj L k (j + 1) = cR adj L k j) := hide (by rw [NX.out, inL_iff.2 hxL]; simp)
                                        generalize ps n L x = X at px e2
                                        have t3 : ((X : Int) == (n : Int)) = false := by simp; omega
                                        clear NX hxL
                                        go_wp2_with fail
                                        go_roundg ((adj k).length - (j + 1))
                                        case measure => omega
                                        case rel => exact ⟨⟨q2, rfl⟩, j + 1, by omega, rfl, by go_num, by rw [N2.out]⟩
                                      have e2 := (ps_eq_n HLn.out x).2 hxL
                                      have N2 : Hid (cR adj L k (j + 1) = cR adj L k j + 1) := hide (by rw [NX.out, inL_false.2 hxL]; simp)
                                      rw [e2] at px
                                      have t3 : ((n : Int) == (n : Int)) = true := by simp
                                      clear NX hxL e2
                                      go_wp2_with fail
                                      go_roundg ((adj k).length - (j + 1))
                                      case measure => omega
                                      case rel => exact ⟨⟨q2, rfl⟩, j + 1, by omega, rfl, by go_num, by rw [N2.out]; go_num⟩
                                    have e : j = (adj k).length := by omega
                                    subst e
                                    generalize cR adj L k (adj k).length = cc at r1 hcr ⊢
                                    have t3 : ((cc : Int) != (cc : Int)) = false := by simp
                                    go_wp2_with fail
                                    go_roundg (n2 - (k + 1))
                                    case measure => omega
                                    case rel => exact ⟨⟨q2, rfl⟩, k + 1, by omega, rfl, by go_num⟩
                                have t1 : decide ((k : Int) < (n : Int)) = false := by simp; omega
                                have t2 : decide (k < n) = false := by simp; omega
                                have e1 : rsS n adj L r0 k = r0 k := by unfold rsS; rw [if_neg hkn]
                                rw [e1] at r1
                                clear e1
                                generalize r0 k = cc at r1 r0k
                                have t3 : (cc != cc) = false := by simp
                                go_wp2_with fail
                                go_roundg (n2 - (k + 1))
                                case measure => omega
                                case rel => exact ⟨⟨q, rfl⟩, k + 1, by omega, rfl, by go_num⟩
                              go_wp2_with fail
                              clear hlt hk
                              as_aux_lemma =>
                                go_loopg [52] n3 (fun g i wr => (∃ q, wr = W5.drewN q) ∧ ∃ k : Nat, k ≤ n3 ∧ g = n3 - k ∧ i = .int .i64 k)
                                case atStart => exact ⟨⟨q, rfl⟩, 0, Nat.zero_le _, rfl, rfl⟩
                                case round =>
                                  obtain ⟨⟨q, rfl⟩, k, hk, rfl, rfl⟩ := hrel
                                  by_cases hlt : k < n3
                                  case pos =>
                                    have r1 := hP5.rC.cell hlt
                                    by_cases hkn : k < n
                                    case pos =>
                                      have t1 : decide ((k : Int) < (n : Int)) = true := by simp; omega
                                      have t2 : decide (k < n) = true := by simp; omega
                                      have e1 : clS n adj L k = (cB adj (ps n L) k (adj k).length : Int) := by unfold clS; rw [if_pos hkn, cB_cls HLn.out]
                                      rw [e1] at r1
                                      clear e1
                                      go_wp2_with fail
                                      refine (closedBy_any (adj := adj) (n := n) (v := k) (p := ps n L) (W5.drewN q) g0 (hN5.drewN q) hrp hkn HG.out.rng HDD.out).mono ?_
                                      rintro e wc ⟨rfl, q3, hwc⟩
                                      rw [hwc]
                                      clear hwc wc
                                      generalize cB adj (ps n L) k (adj k).length = cc at r1 ⊢
                                      have t3 : ((cc : Int) != (cc : Int)) = false := by simp
                                      go_wp2_with fail
                                      go_roundg (n3 - (k + 1))
                                      case measure => omega
                                      case rel => exact ⟨by first | exact ⟨_, rfl⟩ | exact dr2 _ _ _, k + 1, by omega, rfl, by go_num⟩
                                    have t1 : decide ((k : Int) < (n : Int)) = false := by simp; omega
                                    have t2 : decide (k < n) = false := by simp; omega
                                    have e1 : clS n adj L k = 0 := by unfold clS; rw [if_neg hkn]
                                    rw [e1] at r1
                                    clear e1
                                    go_wp2_with fail
                                    go_roundg (n3 - (k + 1))
                                    case measure => omega
                                    case rel => exact ⟨⟨q, rfl⟩, k + 1, by omega, rfl, by go_num⟩
                                  go_wp2_with fail
                                  clear hlt hk
                                  go_loopg [54] n5 (fun g i wr => (∃ q, wr = W5.drewN q) ∧ ∃ k : Nat, k ≤ n5 ∧ g = n5 - k ∧ i = .int .i64 k)
                                  case atStart => exact ⟨⟨q, rfl⟩, 0, Nat.zero_le _, rfl, rfl⟩
                                  case round =>
                                    obtain ⟨⟨q, rfl⟩, k, hk, rfl, rfl⟩ := hrel
                                    by_cases hlt : k < n5
                                    case pos =>
                                      have r1 := hP5.rI.cell hlt
                                      by_cases hkn : k < n
                                      case pos =>
                                        have t1 : decide ((k : Int) < (n : Int)) = true := by simp; omega
                                        have t2 : decide (k < n) = true := by simp; omega
                                        have e1 : isS n adj L k = isn adj L k := by unfold isS; rw [if_pos hkn]
                                        have r2 := hre.cell hkn
                                        rw [e1] at r1
                                        clear e1
                                        generalize isn adj L k = bb at r1 r2
                                        cases bb
                                        all_goals
                                          go_wp2_with fail
                                          go_roundg (n5 - (k + 1))
                                          case measure => omega
                                          case rel => exact ⟨⟨q, rfl⟩, k + 1, by omega, rfl, by go_num⟩
                                      have t1 : decide ((k : Int) < (n : Int)) = false := by simp; omega
                                      have t2 : decide (k < n) = false := by simp; omega
                                      have e1 : isS n adj L k = false := by unfold isS; rw [if_neg hkn]
                                      rw [e1] at r1
                                      clear e1
                                      go_wp2_with fail
                                      go_roundg (n5 - (k + 1))
                                      case measure => omega
                                      case rel => exact ⟨⟨q, rfl⟩, k + 1, by omega, rfl, by go_num⟩
                                    have hmk := run_make_row' (P := Try.prog) 23 4 (.bool false) 1 Try.underlying23 info4 rfl .i64 .i64 n (by omega) (by omega)
                                    have hmade := World.rowIs_made (W5.drewN q) (.bool false) n 4
                                    have hB2 := (below_drewN hB q).alloc (below_drewN hB q).size (.cells (madeCells #[.bool false] n) 4)
                                    have hrp2 := (rowIs_drewN hrp q).alloc (.cells (madeCells #[.bool false] n) 4)
                                    have hre2 := (rowIs_drewN hre q).alloc (.cells (madeCells #[.bool false] n) 4)
                                    have hPlo : w.heap.size ≤ W.heap.size + 2 := by have := hP5.out.size; omega
                                    have hPlt : W5.heap.size = W.heap.size + 2 := hsz
                                    have hnl5 := hP5.nea
                                    have hP6 := (hP5.below (below_drewN (Below.refl _ W5) q)).below ((Below.refl _ (W5.drewN q)).alloc (Nat.le_refl _) (.cells (madeCells #[.bool false] n) 4))
                                    have hsq : (W5.drewN q).heap.size = W.heap.size + 2 := hsz
                                    rw [hsq] at hmade
                                    have hrowS := hmade.congr (g := fun j => .bool (inL (NL.take 0) j)) fun j _ => by simp [inL]
                                    go_wp2_with fail
                                    clear hmk hmade hB hrp hre hP5 hN5 hsq hlt hk
                                    generalize (W5.drewN q).alloc (.cells (madeCells #[.bool false] n) 4) = W6 at hrowS hB2 hrp2 hre2 hP6 ⊢
                                    as_aux_lemma =>
                                      have hNLn : NL.length ≤ n := nodup_le HNear.out.nd (fun x hx => ((HNear.out.mem x).1 hx).1)
                                      go_loopg [57] NL.length (fun g i wr => Below (W.heap.size + 2) W6 wr ∧ ∃ k : Nat, k ≤ NL.length ∧ g = NL.length - k ∧ i = .int .i64 k ∧ wr.rowIs (W.heap.size + 2) 4 n (fun j => .bool (inL (NL.take k) j)))
                                      case atStart => exact ⟨Below.refl _ _, 0, Nat.zero_le _, rfl, rfl, hrowS⟩
                                      case round =>
                                        clear hrowS
                                        obtain ⟨hB7, k, hk, rfl, rfl, hrow⟩ := hrel
                                        by_cases hlt : k < NL.length
                                        case pos =>
                                          obtain ⟨bn, on, rfl, r1⟩ := hP6.nea k hlt
                                          have hbn : bn < W.heap.size + 2 := by
                                            obtain ⟨b', o', e', r'⟩ := hnl5 k hlt
                                            cases e'
                                            have := cell_lt r'
                                            rw [hPlt] at this
                                            exact this
                                          have r2 : wr.cell? ⟨bn, on + k, none⟩ = some (.int .i64 ((NL[k] : Nat) : Int)) := by
                                            rw [hB7.cell (by exact hbn), r1]
                                            show some (Value.int .i64 (iz (zl NL) k)) = _
                                            rw [iz_zl hlt]
                                          clear r1 hbn
                                          have hxn : NL[k] < n := ((HNear.out.mem _).1 (List.getElem_mem hlt)).1
                                          have e1 : inL (NL.take k) NL[k] = false := inL_false.2 (not_take_nd HNear.out.nd hlt)
                                          have r3 := hrow.cell hxn
                                          rw [e1] at r3
                                          have hnx := fun j => inL_take_next (K := NL) hlt rfl j
                                          have hr2 := (up_row (e := Value.bool) hrow NL[k] true).congr (g := fun j => .bool (inL (NL.take (k + 1)) j)) fun j _ => by rw [hnx j]
                                          have r4 := hrow.frozen NL[k]
                                          clear hnx e1
                                          generalize NL[k]'hlt = x at r2 r3 r4 hxn hr2
                                          have t1 : decide ((x : Int) < 0) = false := by simp
                                          have t2 : decide ((n : Int) ≤ (x : Int)) = false := by simp; omega
                                          have t3 : decide (n ≤ x) = false := by simp; omega
                                          go_wp2_with fail
                                          go_roundg (NL.length - (k + 1))
                                          case measure => omega
                                          case rel => exact ⟨hB7.setCell (Nat.le_refl _) _, k + 1, by omega, rfl, by go_num, hr2⟩
                                        have hrowF : wr.rowIs (W.heap.size + 2) 4 n (fun j => .bool (inL NL j)) := by
                                          have e : k = NL.length := by omega
                                          rw [e, List.take_length] at hrow
                                          exact hrow
                                        have hrp7 := hrp2.of_block (hB7.block _ (by omega))
                                        have hre7 := hre2.of_block (hB7.block _ (by omega))
                                        have hout : Below w.heap.size w wr := hP6.out.trans (hB7.mono hPlo)
                                        clear hrow hk
                                        go_wp2_with fail
                                        clear hlt hrp2 hre2 hB7 hP6 hB2
                                        obtain ⟨W7, rfl⟩ : ∃ W7, W7 = wr := ⟨_, rfl⟩
                                        go_loopg [59] n (fun g i wr => W7 = wr ∧ ∃ k : Nat, k ≤ n ∧ g = n - k ∧ i = .int .i64 k)
                                        case atStart => exact ⟨rfl, 0, Nat.zero_le _, rfl, rfl⟩
                                        case round =>
                                          obtain ⟨rfl, k, hk, rfl, rfl⟩ := hrel
                                          by_cases hlt : k < n
                                          case pos =>
                                            have r1 := hre7.cell hlt
                                            have r2 := hrp7.cell hlt
                                            have r3 := hrowF.cell hlt
                                            have HM := hide (HNear.out.mem k)
                                            by_cases hi : isn adj L k = true
                                            case pos =>
                                              rw [hi] at r1
                                              by_cases hkL : k ∈ L
                                              case pos =>
                                                have e2 := (ps_lt_n HLn.out k).2 hkL
                                                generalize ps n L k = X at r2 e2
                                                have t1 : ((X : Int) == (n : Int)) = false := by simp; omega
                                                by_cases hkl : k = last
                                                case pos =>
                                                  have e3 : inL NL k = true := inL_iff.2 (HM.out.2 ⟨hlt, hi, Or.inr hkl⟩)
                                                  have t2 : ((k : Int) == (last : Int)) = true := by simp [hkl]
                                                  rw [e3] at r3
                                                  clear e3 hkl HM hi hkL e2
                                                  go_wp2_with fail
                                                  go_roundg (n - (k + 1))
                                                  case measure => omega
                                                  case rel => exact ⟨rfl, k + 1, by omega, rfl, by go_num⟩
                                                have e3 : inL NL k = false := inL_false.2 (fun h => by
                                                  rcases (HM.out.1 h).2.2 with h | h
                                                  · exact h hkL
                                                  · exact hkl h)
                                                have t2 : ((k : Int) == (last : Int)) = false := by simp; omega
                                                rw [e3] at r3
                                                clear e3 hkl HM hi hkL e2
                                                go_wp2_with fail
                                                go_roundg (n - (k + 1))
                                                case measure => omega
                                                case rel => exact ⟨rfl, k + 1, by omega, rfl, by go_num⟩
                                              have e2 := (ps_eq_n HLn.out k).2 hkL
                                              rw [e2] at r2
                                              have t1 : ((n : Int) == (n : Int)) = true := by simp
                                              have e3 : inL NL k = true := inL_iff.2 (HM.out.2 ⟨hlt, hi, Or.inl hkL⟩)
                                              rw [e3] at r3
                                              clear e3 HM hi hkL e2
                                              go_wp2_with fail
                                              go_roundg (n - (k + 1))
                                              case measure => omega
                                              case rel => exact ⟨rfl, k + 1, by omega, rfl, by go_num⟩
                                            have hif : isn adj L k = false := by simpa using hi
                                            rw [hif] at r1
                                            have e3 : inL NL k = false := inL_false.2 (fun h => hi (HM.out.1 h).2.1)
                                            rw [e3] at r3
                                            clear e3 HM hi hif
                                            go_wp2_with fail
                                            go_roundg (n - (k + 1))
                                            case measure => omega
                                            case rel => exact ⟨rfl, k + 1, by omega, rfl, by go_num⟩
                                          go_wp2_with fail
                                          go_ret
                                          exact ⟨rfl, hout⟩
end Go.Proofs.Qxb6605238a
