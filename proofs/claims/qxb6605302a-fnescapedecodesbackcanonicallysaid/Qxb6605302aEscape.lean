import Derived.Test.Qxb6605302aCls
import Derived.Lib.VarintMem
namespace Go.Proofs.Qxb6605302a
open Go.RowKit
set_option linter.unusedVariables false
set_option linter.unusedSimpArgs false

theorem new_blk (w : World) (o : Obj) : (w.alloc o).heap[w.heap.size]? = some o := heap_alloc_new w o

def hexN (n : Nat) : Nat := if n < 10 then 48 + n else 55 + n
def escB (n : Nat) : List Nat := if isU n then [n] else [37, hexN (n / 16), hexN (n % 16)]
/-- What escape writes. -/
def esc (l : List UInt8) : List UInt8 := l.flatMap fun c => (escB c.toNat).map Nat.toUInt8

theorem clsT (c : Nat) (h : isU c = true) : (65 ≤ c ∧ c ≤ 90) ∨ (97 ≤ c ∧ c ≤ 122) ∨ (48 ≤ c ∧ c ≤ 57) ∨ (45 ≤ c ∧ c ≤ 45) ∨ (95 ≤ c ∧ c ≤ 95) ∨ (46 ≤ c ∧ c ≤ 46) ∨ (126 ≤ c ∧ c ≤ 126) := by
  simp [isU] at h; omega
theorem clsF (c : Nat) (h0 : c < 256) (h : isU c = false) :
    (0 ≤ c ∧ c ≤ 44) ∨ (47 ≤ c ∧ c ≤ 47) ∨ (58 ≤ c ∧ c ≤ 64) ∨ (91 ≤ c ∧ c ≤ 94) ∨ (96 ≤ c ∧ c ≤ 96) ∨ (123 ≤ c ∧ c ≤ 125) ∨ (127 ≤ c ∧ c ≤ 255) := by
  simp [isU] at h; omega

theorem hexN_lt (n : Nat) (h : n < 16) : hexN n < 256 := by unfold hexN; split <;> omega
theorem escB_le (n : Nat) : (escB n).length ≤ 3 := by unfold escB; split <;> simp
theorem esc_len (l : List UInt8) : (esc l).length ≤ 3 * l.length := by
  induction l with
  | nil => simp [esc]
  | cons a r ih =>
    have := escB_le a.toNat
    simp only [esc, List.flatMap_cons, List.length_append, List.length_map, List.length_cons] at *
    omega
theorem esc_app (a b : List UInt8) : esc (a ++ b) = esc a ++ esc b := by simp [esc]
theorem esc_one (c : UInt8) : esc [c] = (escB c.toNat).map Nat.toUInt8 := by simp [esc]

set_option maxRecDepth 100000 in
theorem shr4_val : ∀ n : Fin 256, (n.val : Int).fdiv (2 ^ (min (4 : Int).toNat IntKind.u8.bits)) = ((n.val / 16 : Nat) : Int) := by decide
theorem run_shr4 (n : Nat) (h : n < 256) : Op.shift .shr .u8 (n : Int) .u64 4 = (pure (.int .u8 ((n / 16 : Nat) : Int)) : Sem Value) := by
  have := shr4_val ⟨n, h⟩
  simp only at this
  unfold Op.shift
  rw [if_neg (by decide)]
  simp only [this]
set_option maxRecDepth 100000 in
theorem bits_and15 : ∀ n : Fin 256, bits .and .u8 (n.val : Int) 15 = ((n.val % 16 : Nat) : Int) := by decide

theorem hexs_eq (n : Nat) (h : n < (ByteArray.mk #[48, 49, 50, 51, 52, 53, 54, 55, 56, 57, 65, 66, 67, 68, 69, 70]).size) : (ByteArray.mk #[48, 49, 50, 51, 52, 53, 54, 55, 56, 57, 65, 66, 67, 68, 69, 70])[n].toNat = hexN n := by
  have h16 : n < 16 := h
  have : n = 0 ∨ n = 1 ∨ n = 2 ∨ n = 3 ∨ n = 4 ∨ n = 5 ∨ n = 6 ∨ n = 7 ∨ n = 8 ∨ n = 9 ∨ n = 10 ∨ n = 11 ∨ n = 12 ∨ n = 13 ∨ n = 14 ∨ n = 15 := by omega
  rcases this with rfl|rfl|rfl|rfl|rfl|rfl|rfl|rfl|rfl|rfl|rfl|rfl|rfl|rfl|rfl|rfl <;> rfl

theorem hex_at (n : Nat) (h : n < 16) (w : World) : (Instr.index 9 (.string { data := #[48, 49, 50, 51, 52, 53, 54, 55, 56, 57, 65, 66, 67, 68, 69, 70] }) (.int .u8 (n : Int))).run Try.prog w = .ok (.int .u8 (hexN n : Int)) w := by
  rw [run_index_string w 9 _ .u8 _ Try.underlying9]
  have : n = 0 ∨ n = 1 ∨ n = 2 ∨ n = 3 ∨ n = 4 ∨ n = 5 ∨ n = 6 ∨ n = 7 ∨ n = 8 ∨ n = 9 ∨ n = 10 ∨ n = 11 ∨ n = 12 ∨ n = 13 ∨ n = 14 ∨ n = 15 := by omega
  rcases this with rfl|rfl|rfl|rfl|rfl|rfl|rfl|rfl|rfl|rfl|rfl|rfl|rfl|rfl|rfl|rfl <;> rfl

set_option maxRecDepth 100000 in
set_option maxHeartbeats 4000000 in
theorem escape_any (s : ByteArray) (w : World) (hs : s.size ≤ 4194304) :
    Calls Try.prog 19 #[.string s] w fun e w' => e = .returned (.string ⟨(esc s.data.toList).toArray⟩) ∧ Below w.heap.size w w' := by
  have hsz : Hid (s.size = s.data.toList.length) := hide (Array.length_toList (xs := s.data)).symm
  go_enter Try.func19, Try.ntmps19
  go_wp2_with fail
  refine (Try.Builder_Grow_fresh w.heap.size w.heap.size s.size _ (Nat.le_refl _) ?ga ?gb ?gc).mono ?_
  case ga => exact new_blk w _
  case gb => simp
  case gc => omega
  rintro e w1 ⟨rfl, hBd, hB1⟩
  have hB0 : Below w.heap.size w w1 := ((Below.refl _ _).alloc (Nat.le_refl _) _).trans hB1
  have hR0 : Hid (Bd w.heap.size w.heap.size (Lib.byteCells (esc (s.data.toList.take 0))) w1) := hide (by simpa [esc, Lib.byteCells] using hBd)
  clear hBd hB1
  go_wp2
  go_loopg [4] s.size (fun g i wr => (Below w.heap.size w wr ∧ Hid (Bd w.heap.size w.heap.size (Lib.byteCells (esc (s.data.toList.take (s.size - g)))) wr)) ∧ ∃ k : Nat, k ≤ s.size ∧ g = s.size - k ∧ i = .int .i64 k)
  case atStart => exact ⟨⟨hB0, by simpa using hR0⟩, 0, Nat.zero_le _, rfl, rfl⟩
  case round =>
    obtain ⟨⟨hB, hR⟩, k, hk, rfl, rfl⟩ := hrel
    rw [show s.size - (s.size - k) = k by omega] at hR
    by_cases hlt : k < s.size
    · have hn : s[k].toNat < 256 := s[k].toNat_lt
      have hsk : Hid (s.data.toList.take (k + 1) = s.data.toList.take k ++ [s[k]]) := hide (by
        rw [List.take_succ_eq_append_getElem (by rw [← hsz.out]; omega)]; rfl)
      have hel : (esc (s.data.toList.take k)).length ≤ 12582912 := by
        have h1 := esc_len (s.data.toList.take k)
        have h2 := List.length_take_le k s.data.toList
        omega
      have hws := hB.size
      cases hu : isU s[k].toNat
      case true =>
        have HU := hide hu
        rcases clsT _ hu with ⟨h1, h2⟩ | ⟨h1, h2⟩ | ⟨h1, h2⟩ | ⟨h1, h2⟩ | ⟨h1, h2⟩ | ⟨h1, h2⟩ | ⟨h1, h2⟩
        all_goals
          clear hu
          first | (have d1 : decide ((65 : Int) ≤ (s[k].toNat : Int)) = true := by simp; omega) | (have d1 : decide ((65 : Int) ≤ (s[k].toNat : Int)) = false := by simp; omega)
          first | (have d2 : decide ((s[k].toNat : Int) ≤ 90) = true := by simp; omega) | (have d2 : decide ((s[k].toNat : Int) ≤ 90) = false := by simp; omega)
          first | (have d3 : decide ((97 : Int) ≤ (s[k].toNat : Int)) = true := by simp; omega) | (have d3 : decide ((97 : Int) ≤ (s[k].toNat : Int)) = false := by simp; omega)
          first | (have d4 : decide ((s[k].toNat : Int) ≤ 122) = true := by simp; omega) | (have d4 : decide ((s[k].toNat : Int) ≤ 122) = false := by simp; omega)
          first | (have d5 : decide ((48 : Int) ≤ (s[k].toNat : Int)) = true := by simp; omega) | (have d5 : decide ((48 : Int) ≤ (s[k].toNat : Int)) = false := by simp; omega)
          first | (have d6 : decide ((s[k].toNat : Int) ≤ 57) = true := by simp; omega) | (have d6 : decide ((s[k].toNat : Int) ≤ 57) = false := by simp; omega)
          first | (have e1 : ((s[k].toNat : Int) == 45) = true := by simp; omega) | (have e1 : ((s[k].toNat : Int) == 45) = false := by simp; omega)
          first | (have e2 : ((s[k].toNat : Int) == 95) = true := by simp; omega) | (have e2 : ((s[k].toNat : Int) == 95) = false := by simp; omega)
          first | (have e3 : ((s[k].toNat : Int) == 46) = true := by simp; omega) | (have e3 : ((s[k].toNat : Int) == 46) = false := by simp; omega)
          first | (have e4 : ((s[k].toNat : Int) == 126) = true := by simp; omega) | (have e4 : ((s[k].toNat : Int) == 126) = false := by simp; omega)
          go_wp2_with fail
          refine (writeByte w.heap.size w.heap.size _ _ _ hR.out (by rw [Lib.byteCells_length]; omega) hws).mono ?_
          rintro e w2 ⟨rfl, hR2, hB2⟩
          go_wp2
          go_roundg (s.size - (k + 1))
          case measure => omega
          case rel =>
            refine ⟨⟨hB.trans hB2, hide ?_⟩, k + 1, by omega, rfl, by go_num⟩
            rw [show s.size - (s.size - (k + 1)) = k + 1 by omega, hsk.out, esc_app, esc_one, escB, if_pos HU.out]
            simpa only [List.map_cons, List.map_nil, Lib.byteCells_snoc _ hn] using hR2
      case false =>
        have HU := hide hu
        have hsh := run_shr4 s[k].toNat hn
        have han : bits .and .u8 (s[k].toNat : Int) 15 = ((s[k].toNat % 16 : Nat) : Int) := bits_and15 ⟨s[k].toNat, hn⟩
        have hx1 := hex_at (s[k].toNat / 16) (by omega)
        have hx2 := hex_at (s[k].toNat % 16) (by omega)
        have hy1 := hexN_lt (s[k].toNat / 16) (by omega)
        have hy2 := hexN_lt (s[k].toNat % 16) (by omega)
        rcases clsF _ hn hu with ⟨h1, h2⟩ | ⟨h1, h2⟩ | ⟨h1, h2⟩ | ⟨h1, h2⟩ | ⟨h1, h2⟩ | ⟨h1, h2⟩ | ⟨h1, h2⟩
        all_goals
          clear hu
          first | (have d1 : decide ((65 : Int) ≤ (s[k].toNat : Int)) = true := by simp; omega) | (have d1 : decide ((65 : Int) ≤ (s[k].toNat : Int)) = false := by simp; omega)
          first | (have d2 : decide ((s[k].toNat : Int) ≤ 90) = true := by simp; omega) | (have d2 : decide ((s[k].toNat : Int) ≤ 90) = false := by simp; omega)
          first | (have d3 : decide ((97 : Int) ≤ (s[k].toNat : Int)) = true := by simp; omega) | (have d3 : decide ((97 : Int) ≤ (s[k].toNat : Int)) = false := by simp; omega)
          first | (have d4 : decide ((s[k].toNat : Int) ≤ 122) = true := by simp; omega) | (have d4 : decide ((s[k].toNat : Int) ≤ 122) = false := by simp; omega)
          first | (have d5 : decide ((48 : Int) ≤ (s[k].toNat : Int)) = true := by simp; omega) | (have d5 : decide ((48 : Int) ≤ (s[k].toNat : Int)) = false := by simp; omega)
          first | (have d6 : decide ((s[k].toNat : Int) ≤ 57) = true := by simp; omega) | (have d6 : decide ((s[k].toNat : Int) ≤ 57) = false := by simp; omega)
          first | (have e1 : ((s[k].toNat : Int) == 45) = true := by simp; omega) | (have e1 : ((s[k].toNat : Int) == 45) = false := by simp; omega)
          first | (have e2 : ((s[k].toNat : Int) == 95) = true := by simp; omega) | (have e2 : ((s[k].toNat : Int) == 95) = false := by simp; omega)
          first | (have e3 : ((s[k].toNat : Int) == 46) = true := by simp; omega) | (have e3 : ((s[k].toNat : Int) == 46) = false := by simp; omega)
          first | (have e4 : ((s[k].toNat : Int) == 126) = true := by simp; omega) | (have e4 : ((s[k].toNat : Int) == 126) = false := by simp; omega)
          go_wp2_with fail
          refine (writeByte w.heap.size w.heap.size _ _ _ hR.out (by rw [Lib.byteCells_length]; omega) hws).mono ?_
          rintro e w2 ⟨rfl, hR2, hB2⟩
          have hR2' := hide hR2
          clear hR2
          go_wp2_with fail
          refine (writeByte w.heap.size w.heap.size _ _ _ hR2'.out (by simp only [List.length_append, List.length_cons, List.length_nil, Lib.byteCells_length]; omega) (Nat.le_trans hws hB2.size)).mono ?_
          rintro e w3 ⟨rfl, hR3, hB3⟩
          have hR3' := hide hR3
          clear hR3
          go_wp2_with fail
          refine (writeByte w.heap.size w.heap.size _ _ _ hR3'.out (by simp only [List.length_append, List.length_cons, List.length_nil, Lib.byteCells_length]; omega) (Nat.le_trans hws (Nat.le_trans hB2.size hB3.size))).mono ?_
          rintro e w4 ⟨rfl, hR4, hB4⟩
          have hR4' := hide hR4
          clear hR4
          go_wp2
          go_roundg (s.size - (k + 1))
          case measure => omega
          case rel =>
            refine ⟨⟨hB.trans (hB2.trans (hB3.trans hB4)), hide ?_⟩, k + 1, by omega, rfl, by go_num⟩
            rw [show s.size - (s.size - (k + 1)) = k + 1 by omega, hsk.out, esc_app, esc_one, escB, if_neg (by rw [HU.out]; decide)]
            have h3 := hR4'.out
            simp only [hexs_eq] at h3
            rw [show (37 : Int) = ((37 : Nat) : Int) from rfl, ← Lib.byteCells_snoc _ (by omega), ← Lib.byteCells_snoc _ hy1, ← Lib.byteCells_snoc _ hy2] at h3
            simpa only [List.map_cons, List.map_nil, List.append_assoc, List.cons_append, List.nil_append] using h3
    · have hkk : k = s.size := by omega
      have hws := hB.size
      go_wp2_with fail
      refine (Try.Builder_String_any w.heap.size w.heap.size (esc (s.data.toList.take k)) _ (Or.inr hR.out) hws).mono ?_
      rintro e w2 ⟨rfl, hB2⟩
      go_wp2
      go_ret
      refine ⟨?_, hB.trans hB2⟩
      rw [List.take_of_length_le (by rw [← hsz.out]; omega)]
      rfl

theorem zzEscape_any (s : ByteArray) (w : World) (hs : s.size ≤ 4194304) :
    Calls Try.prog 7 #[.string s] w fun e w' => e = .returned (.string ⟨(esc s.data.toList).toArray⟩) ∧ Below w.heap.size w w' := by
  go_enter Try.func7, Try.ntmps7
  go_wp2_with fail
  refine (escape_any s w hs).mono ?_
  rintro e w' ⟨rfl, hw⟩
  go_wp2
  go_ret
  exact ⟨rfl, hw⟩
end Go.Proofs.Qxb6605302a
