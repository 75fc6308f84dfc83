import Derived.Test.Qxb6605302aEscape
namespace Go.Proofs.Qxb6605302a
open Go.RowKit
set_option linter.unusedVariables false
set_option linter.unusedSimpArgs false

def cntN (l : List UInt8) : Nat := l.countP fun c => !isU c.toNat
def cntP (l : List UInt8) : Nat := l.countP fun c => c.toNat == 37

theorem cntN_app (a b : List UInt8) : cntN (a ++ b) = cntN a + cntN b := by simp [cntN]
theorem cntP_app (a b : List UInt8) : cntP (a ++ b) = cntP a + cntP b := by simp [cntP]
theorem cntN_le (a : List UInt8) : cntN a ≤ a.length := List.countP_le_length
theorem cntP_le (a : List UInt8) : cntP a ≤ a.length := List.countP_le_length
theorem esc_cons (c : UInt8) (r : List UInt8) : esc (c :: r) = (escB c.toNat).map Nat.toUInt8 ++ esc r := by simp [esc]

theorem hexN_ne (n : Nat) (h : n < 16) : hexN n ≠ 37 := by unfold hexN; split <;> omega
theorem isU_ne (n : Nat) (h : isU n = true) : n ≠ 37 := by
  rintro rfl; revert h; decide

theorem esc_length (l : List UInt8) : (esc l).length = l.length + 2 * cntN l := by
  induction l with
  | nil => rfl
  | cons c r ih =>
    rw [esc_cons, List.length_append, ih, show cntN (c :: r) = cntN [c] + cntN r from cntN_app [c] r, List.length_map]
    cases hu : isU c.toNat <;> simp [escB, hu, cntN] <;> omega

theorem one37 (n : Nat) (h : n < 256) : cntP [n.toUInt8] = if n = 37 then 1 else 0 := by
  simp only [cntP, List.countP_cons, List.countP_nil, Lib.toUInt8_toNat h]
  split <;> simp_all

theorem esc_cntP (l : List UInt8) : cntP (esc l) = cntN l := by
  induction l with
  | nil => rfl
  | cons c r ih =>
    rw [esc_cons, cntP_app, ih, show cntN (c :: r) = cntN [c] + cntN r from cntN_app [c] r]
    have hc : c.toNat < 256 := c.toNat_lt
    cases hu : isU c.toNat
    · have h1 := hexN_lt (c.toNat / 16) (by omega)
      have h2 := hexN_lt (c.toNat % 16) (by omega)
      have g1 := hexN_ne (c.toNat / 16) (by omega)
      have g2 := hexN_ne (c.toNat % 16) (by omega)
      have : (escB c.toNat).map Nat.toUInt8 = [Nat.toUInt8 37] ++ ([(hexN (c.toNat / 16)).toUInt8] ++ [(hexN (c.toNat % 16)).toUInt8]) := by simp [escB, hu]
      rw [this, cntP_app, cntP_app, one37 _ (by omega), one37 _ h1, one37 _ h2, if_pos rfl, if_neg g1, if_neg g2]
      simp [cntN, hu]
    · have g := isU_ne _ hu
      have : (escB c.toNat).map Nat.toUInt8 = [c.toNat.toUInt8] := by simp [escB, hu]
      rw [this, one37 _ hc, if_neg g]
      simp [cntN, hu]

theorem sz (s : ByteArray) : s.size = s.data.toList.length := (Array.length_toList (xs := s.data)).symm
theorem take_snoc (s : ByteArray) (k : Nat) (h : k < s.size) : s.data.toList.take (k + 1) = s.data.toList.take k ++ [s[k]] := by
  rw [List.take_succ_eq_append_getElem (by rw [← sz]; omega)]; rfl
theorem take_all (s : ByteArray) (k : Nat) (h : s.size ≤ k) : s.data.toList.take k = s.data.toList := List.take_of_length_le (by rw [← sz]; omega)

set_option maxHeartbeats 1000000 in
theorem bytes10_any (a b : ByteArray) (w : World) (ha : a.size ≤ maxLen) (hb : b.size ≤ maxLen) :
    Calls Try.prog 10 #[.string a, .string b] w fun e w' => (∃ t : Bool, e = .returned (.bool t) ∧ (t = true → a.size + b.size ≤ 1048576)) ∧ w' = w := by
  unfold maxLen at ha hb
  go_enter Try.func10, Try.ntmps10
  by_cases h1 : a.size ≤ 1048576
  · have d1 : decide ((1048576 : Int) < (a.size : Int)) = false := by simp; omega
    by_cases h2 : b.size ≤ 1048576
    · have d2 : decide ((1048576 : Int) < (b.size : Int)) = false := by simp; omega
      by_cases h3 : a.size + b.size ≤ 1048576
      · have d3 : decide ((1048576 : Int) < (a.size : Int) + (b.size : Int)) = false := by simp; omega
        go_wp2
        go_ret
        exact ⟨⟨true, rfl, fun _ => h3⟩, rfl⟩
      · have d3 : decide ((1048576 : Int) < (a.size : Int) + (b.size : Int)) = true := by simp; omega
        go_wp2
        go_ret
        exact ⟨⟨false, rfl, by simp⟩, rfl⟩
    · have d2 : decide ((1048576 : Int) < (b.size : Int)) = true := by simp; omega
      go_wp2
      go_ret
      exact ⟨⟨false, rfl, by simp⟩, rfl⟩
  · have d1 : decide ((1048576 : Int) < (a.size : Int)) = true := by simp; omega
    go_wp2
    go_ret
    exact ⟨⟨false, rfl, by simp⟩, rfl⟩

theorem toList_append (a b : ByteArray) : (a ++ b).data.toList = a.data.toList ++ b.data.toList := by
  rw [ByteArray.data_append, Array.toList_append]

set_option maxRecDepth 100000 in
set_option maxHeartbeats 2000000 in
theorem law4 (a b : ByteArray) (w : World) (ha : a.size ≤ maxLen) (hb : b.size ≤ maxLen) :
    Calls Try.prog 4 #[.string a, .string b] w fun e w' => e = .returned (.bool true) ∧ Below w.heap.size w w' := by
  go_enter Try.func4, Try.ntmps4
  go_wp2_with fail
  refine (bytes10_any a b w ha hb).mono ?_
  rintro e w' ⟨⟨t, rfl, hsum⟩, hw⟩
  rw [hw]
  clear hw w'
  cases t
  case false =>
    go_wp2_with fail
    go_ret
    exact ⟨rfl, Below.refl _ _⟩
  have hs := hsum rfl
  clear hsum ha hb
  have d1 : decide ((1048576 : Int) < (a.size : Int)) = false := by simp; omega
  have d2 : decide ((1048576 : Int) < (b.size : Int)) = false := by simp; omega
  have d3 : decide ((1048576 : Int) < (a.size : Int) + (b.size : Int)) = false := by simp; omega
  have d4 : decide ((1048576 : Int) < IntKind.i64.wrap ((a.size : Int) + (b.size : Int))) = false := by rw [IntKind.wrap_i64]; simp; omega
  go_wp2_with fail
  go_loopg [5, 6] a.size (fun g c i wr => w = wr ∧ ∃ k : Nat, k ≤ a.size ∧ g = a.size - k ∧ i = .int .i64 k ∧ c = .int .i64 (cntN (a.data.toList.take k)))
  case atStart => exact ⟨rfl, 0, Nat.zero_le _, rfl, rfl, rfl⟩
  case round =>
    obtain ⟨rfl, k, hk, rfl, rfl, rfl⟩ := hrel
    by_cases hlt : k < a.size
    · have hn : a[k].toNat < 256 := a[k].toNat_lt
      have hc0 : cntN (a.data.toList.take k) ≤ 1048576 := Nat.le_trans (cntN_le _) (Nat.le_trans (List.length_take_le _ _) (by omega))
      go_wp2_with fail
      refine (unres_any _ hn _).mono ?_
      rintro e w' ⟨rfl, hw⟩
      rw [hw]
      clear hw w'
      have hcs : Hid (cntN (a.data.toList.take (k + 1)) = cntN (a.data.toList.take k) + (if isU a[k].toNat then 0 else 1)) := hide (by
        rw [take_snoc a k hlt, cntN_app]
        cases hu : isU a[k].toNat <;> simp [cntN, hu])
      cases hu : isU a[k].toNat
      · have HU := hide hu
        go_wp2_with fail
        go_roundg (a.size - (k + 1))
        case measure => omega
        case rel => exact ⟨rfl, k + 1, by omega, rfl, by go_num, by rw [hcs.out, HU.out]; go_num⟩
      · have HU := hide hu
        go_wp2_with fail
        go_roundg (a.size - (k + 1))
        case measure => omega
        case rel => exact ⟨rfl, k + 1, by omega, rfl, by go_num, by rw [hcs.out, HU.out]; go_num⟩
    · have hkk := take_all a k (by omega)
      rw [hkk]
      clear hkk
      have hcn : cntN a.data.toList ≤ 1048576 := Nat.le_trans (cntN_le _) (by rw [← sz]; omega)
      go_wp2_with fail
      refine (zzEscape_any a w (by omega)).mono ?_
      rintro e w1 ⟨rfl, hb1⟩
      obtain ⟨ea, hea⟩ : ∃ ea : ByteArray, ea = ⟨(esc a.data.toList).toArray⟩ := ⟨_, rfl⟩
      rw [← hea]
      have hea' : Hid (ea.data.toList = esc a.data.toList) := hide (by rw [hea])
      clear hea
      have hel : ea.size = a.size + 2 * cntN a.data.toList := by rw [sz, hea'.out, esc_length, ← sz]
      have hpc : Hid (cntP ea.data.toList = cntN a.data.toList) := hide (by rw [hea'.out, esc_cntP])
      go_wp2_with fail
      refine (zzEscape_any b w1 (by omega)).mono ?_
      rintro e w2 ⟨rfl, hb2⟩
      obtain ⟨eb, heb⟩ : ∃ eb : ByteArray, eb = ⟨(esc b.data.toList).toArray⟩ := ⟨_, rfl⟩
      rw [← heb]
      have heb' : Hid (eb.data.toList = esc b.data.toList) := hide (by rw [heb])
      clear heb
      have hebl : eb.size ≤ 4194304 := by
        have h1 := esc_len b.data.toList
        rw [sz, heb'.out]
        rw [← sz] at h1
        omega
      have hab : (a ++ b).size = a.size + b.size := ByteArray.size_append
      have HAB := hide hab
      have HEL := hide hel
      clear hab hel
      go_wp2_with fail
      refine (zzEscape_any (a ++ b) w2 (by rw [HAB.out]; omega)).mono ?_
      rintro e w3 ⟨rfl, hb3⟩
      have heq : ByteArray.mk (esc (a ++ b).data.toList).toArray = ea ++ eb := by
        apply ByteArray.ext
        apply Array.toList_inj.1
        rw [toList_append ea eb, hea'.out, heb'.out, toList_append, ← esc_app]
      rw [heq]
      clear heq
      have hB3 : Below w.heap.size w w3 := hb1.trans ((hb2.mono hb1.size).trans (hb3.mono (Nat.le_trans hb1.size hb2.size)))
      clear hb1 hb2 hb3 hea' heb'
      have hel : ea.size ≤ 4194304 := by rw [HEL.out]; omega
      have q1 : ((ea.size : Int) == (a.size : Int) + 2 * (cntN a.data.toList : Int)) = true := by rw [HEL.out]; simp
      go_wp2_with fail
      go_loopg [10, 11] ea.size (fun g c i wr => w3 = wr ∧ ∃ k : Nat, k ≤ ea.size ∧ g = ea.size - k ∧ i = .int .i64 k ∧ c = .int .i64 (cntP (ea.data.toList.take k)))
      case atStart => exact ⟨rfl, 0, Nat.zero_le _, rfl, rfl, rfl⟩
      case round =>
        obtain ⟨rfl, k, hk, rfl, rfl, rfl⟩ := hrel
        by_cases hlt : k < ea.size
        · have hc0 : cntP (ea.data.toList.take k) ≤ 4194304 := Nat.le_trans (cntP_le _) (Nat.le_trans (List.length_take_le _ _) (by omega))
          have hcs : Hid (cntP (ea.data.toList.take (k + 1)) = cntP (ea.data.toList.take k) + (if ea[k].toNat = 37 then 1 else 0)) := hide (by
            rw [take_snoc ea k hlt, cntP_app]
            by_cases hu : ea[k].toNat = 37 <;> simp [cntP, hu])
          by_cases hu : ea[k].toNat = 37
          · have HU := hide hu
            have hq : ((ea[k].toNat : Int) == 37) = true := by simp; omega
            clear hu
            go_wp2_with fail
            go_roundg (ea.size - (k + 1))
            case measure => omega
            case rel => exact ⟨rfl, k + 1, by omega, rfl, by go_num, by rw [hcs.out, if_pos HU.out]; go_num⟩
          · have HU := hide hu
            have hq : ((ea[k].toNat : Int) == 37) = false := by simp; omega
            clear hu
            go_wp2_with fail
            go_roundg (ea.size - (k + 1))
            case measure => omega
            case rel => exact ⟨rfl, k + 1, by omega, rfl, by go_num, by rw [hcs.out, if_neg HU.out]; go_num⟩
        · have hkk := take_all ea k (by omega)
          rw [hkk, hpc.out]
          clear hkk
          go_wp2_with fail
          go_ret
          exact ⟨rfl, hB3⟩
end Go.Proofs.Qxb6605302a
