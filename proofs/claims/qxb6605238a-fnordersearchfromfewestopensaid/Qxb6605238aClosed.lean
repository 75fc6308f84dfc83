import Derived.Test.Qxb6605238aRef
namespace Go.Proofs.Qxb6605238a
open Go.RowKit Go.Deep
set_option linter.unusedVariables false
set_option linter.unusedSimpArgs false

variable {adj : Nat → List Nat}

def okx (p : Nat → Nat) (v x : Nat) : Bool := decide (x = v) || decide (p x < p v)
def okw (adj : Nat → List Nat) (p : Nat → Nat) (v w : Nat) : Bool := decide (p w < p v) && (adj w).all (okx p v)
def cB (adj : Nat → List Nat) (p : Nat → Nat) (v k : Nat) : Nat := ((adj v).take k).countP (okw adj p v)

theorem cB_next {p : Nat → Nat} {v k x : Nat} (hk : k < (adj v).length) (hx : (adj v)[k] = x) : cB adj p v (k + 1) = cB adj p v k + if okw adj p v x then 1 else 0 := by
  unfold cB
  rw [take_next hk, hx, List.countP_append, List.countP_cons, List.countP_nil]; simp
theorem cB_le {p : Nat → Nat} {v k : Nat} : cB adj p v k ≤ k := Nat.le_trans List.countP_le_length (List.length_take_le _ _)
theorem all_next {l : List Nat} {f : Nat → Bool} {k x : Nat} (hk : k < l.length) (hx : l[k] = x) : (l.take (k + 1)).all f = ((l.take k).all f && f x) := by
  rw [take_next hk, hx, List.all_append]; simp

set_option maxRecDepth 100000 in
set_option maxHeartbeats 4000000 in
theorem closedBy_any {B G n P v : Nat} {p : Nat → Nat} (w : World) (hn : n ≤ 4096) (hN : Nb w B G n adj) (hP : w.rowIs P 3 n (fun i => .int .i64 (p i))) (hv : v < n) (hr : ∀ v, v < n → ∀ x ∈ adj v, x < n) (hd : ∀ x, x < n → (adj x).length ≤ 65536) :
    Calls Try.prog 12 #[.slice (some ⟨G, 0, none⟩) n n, .slice (some ⟨P, 0, none⟩) n n, .int .i64 v] w fun e w' => e = .returned (.int .i64 (cB adj p v (adj v).length)) ∧ ∃ m, w' = w.drewN m := by
  have HR := hide hr
  have HD := hide hd
  clear hr hd
  obtain ⟨A, c, g0, hA⟩ := hN.getN hv
  have HA := hide hA
  clear hA
  have hdv := HD.out v hv
  have pv := hP.cell hv
  go_enter Try.func12, Try.ntmps12
  go_wp2
  clear g0
  go_loopg [7, 18] (adj v).length (fun g cc i wr => (∃ m, wr = w.drewN m) ∧ ∃ k : Nat, k ≤ (adj v).length ∧ g = (adj v).length - k ∧ i = .int .i64 k ∧ cc = .int .i64 (cB adj p v k))
  case atStart => exact ⟨⟨0, rfl⟩, 0, Nat.zero_le _, rfl, rfl, by simp [cB]⟩
  case round =>
    obtain ⟨⟨m, rfl⟩, k, hk, rfl, rfl, rfl⟩ := hrel
    have hcb := cB_le (adj := adj) (p := p) (v := v) (k := k)
    by_cases hlt : k < (adj v).length
    · obtain ⟨gb, off, rfl, hc1⟩ := HA.out k hlt
      obtain ⟨x, hx⟩ : ∃ x, (adj v)[k] = x := ⟨_, rfl⟩
      have hxn : x < n := by rw [← hx]; exact HR.out v hv _ (List.getElem_mem hlt)
      rw [hx] at hc1
      have N1 := hide (cB_next (p := p) hlt hx)
      clear hx
      have px := hP.cell hxn
      by_cases hpx : p x < p v
      · have q1 : decide ((p v : Int) ≤ (p x : Int)) = false := by simp; omega
        have q1n : decide (p v ≤ p x) = false := by simp; omega
        have HPX := hide hpx
        clear hpx
        obtain ⟨A2, c2, g2, hA2⟩ := hN.getN hxn
        have HA2 := hide hA2
        clear hA2
        have hdx := HD.out x hxn
        go_wp2
        go_quiet (fail)
        go_wp2
        clear g2
        go_loopg [10, 36] (adj x).length (fun g al i wr => (∃ m, wr = w.drewN m) ∧ ∃ j : Nat, j ≤ (adj x).length ∧ g = (adj x).length - j ∧ i = .int .i64 j ∧ al = .bool (((adj x).take j).all (okx p v)))
        case atStart => exact ⟨by first | exact ⟨_, rfl⟩ | exact ⟨_, by rw [World.drewN_drewN]⟩, 0, Nat.zero_le _, rfl, rfl, by simp⟩
        case round =>
          obtain ⟨⟨m2, rfl⟩, j, hj, rfl, rfl, rfl⟩ := hrel
          by_cases hjl : j < (adj x).length
          · obtain ⟨gb2, off2, rfl, hc2⟩ := HA2.out j hjl
            obtain ⟨z, hz⟩ : ∃ z, (adj x)[j] = z := ⟨_, rfl⟩
            have hzn : z < n := by rw [← hz]; exact HR.out x hxn _ (List.getElem_mem hjl)
            rw [hz] at hc2
            have N2 := hide (all_next (f := okx p v) hjl hz)
            clear hz
            have pz := hP.cell hzn
            by_cases hzv : z = v
            · have q2 : ((z : Int) != (v : Int)) = false := by rw [hzv]; simp
              have HZV := hide hzv
              clear hzv
              go_wp2
              go_quiet (fail)
              go_wp2
              go_roundg ((adj x).length - (j + 1))
              case measure => omega
              case rel => exact ⟨by first | exact ⟨_, rfl⟩ | exact ⟨_, by rw [World.drewN_drewN]⟩, j + 1, by omega, rfl, by go_num, by rw [N2.out]; simp [okx, HZV.out]⟩
            · have q2 : ((z : Int) != (v : Int)) = true := by simp; omega
              have HZV := hide hzv
              clear hzv
              by_cases hpz : p z < p v
              · have q3 : decide ((p v : Int) ≤ (p z : Int)) = false := by simp; omega
                have q3n : decide (p v ≤ p z) = false := by simp; omega
                have HPZ := hide hpz
                clear hpz
                go_wp2
                go_quiet (fail)
                go_wp2
                go_roundg ((adj x).length - (j + 1))
                case measure => omega
                case rel => exact ⟨by first | exact ⟨_, rfl⟩ | exact ⟨_, by rw [World.drewN_drewN]⟩, j + 1, by omega, rfl, by go_num, by rw [N2.out]; simp [okx, HPZ.out]⟩
              · have q3 : decide ((p v : Int) ≤ (p z : Int)) = true := by simp; omega
                have q3n : decide (p v ≤ p z) = true := by simp; omega
                have HPZ := hide hpz
                clear hpz
                go_wp2
                go_quiet (fail)
                go_wp2
                go_roundg ((adj x).length - (j + 1))
                case measure => omega
                case rel => exact ⟨by first | exact ⟨_, rfl⟩ | exact ⟨_, by rw [World.drewN_drewN]⟩, j + 1, by omega, rfl, by go_num, by rw [N2.out]; simp [okx, HPZ.out, HZV.out]⟩
          · have hjj : j = (adj x).length := by omega
            subst hjj
            rw [List.take_length]
            have HW : Hid (okw adj p v x = (adj x).all (okx p v)) := hide (by unfold okw; rw [decide_eq_true HPX.out, Bool.true_and])
            cases hall : (adj x).all (okx p v)
            · rw [hall] at HW
              clear hall
              go_wp2
              go_roundg ((adj v).length - (k + 1))
              case measure => omega
              case rel => exact ⟨⟨_, rfl⟩, k + 1, by omega, rfl, by go_num, by rw [N1.out, HW.out]; simp⟩
            · rw [hall] at HW
              clear hall
              go_wp2
              go_roundg ((adj v).length - (k + 1))
              case measure => omega
              case rel => exact ⟨⟨_, rfl⟩, k + 1, by omega, rfl, by go_num, by rw [N1.out, HW.out]; go_num⟩
      · have q1 : decide ((p v : Int) ≤ (p x : Int)) = true := by simp; omega
        have q1n : decide (p v ≤ p x) = true := by simp; omega
        have HW : Hid (okw adj p v x = false) := hide (by unfold okw; rw [decide_eq_false hpx, Bool.false_and])
        clear hpx
        go_wp2
        go_quiet (fail)
        go_wp2
        go_roundg ((adj v).length - (k + 1))
        case measure => omega
        case rel => exact ⟨by first | exact ⟨_, rfl⟩ | exact ⟨_, by rw [World.drewN_drewN]⟩, k + 1, by omega, rfl, by go_num, by rw [N1.out, HW.out]; simp⟩
    · have hkk : k = (adj v).length := by omega
      subst hkk
      go_wp2
      go_ret
      exact ⟨rfl, m, rfl⟩
end Go.Proofs.Qxb6605238a
