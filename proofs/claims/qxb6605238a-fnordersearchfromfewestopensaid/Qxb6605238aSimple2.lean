import Derived.Test.Qxb6605238aSimple
import Derived.Test.Qxb6605238aRef3
namespace Go.Proofs.Qxb6605238a
open Go.RowKit Go.Deep
set_option linter.unusedVariables false
set_option linter.unusedSimpArgs false

/-- What the first pass finds of vertex v. -/
def Row1 (n : Nat) (v : Nat) (l : List Int) : Prop := (∀ x ∈ l, 0 ≤ x ∧ x < (n : Int) ∧ x ≠ (v : Int)) ∧ l.Nodup
def GrZ (n : Nat) (zz : Nat → List Int) : Prop := (∀ v, v < n → Row1 n v (zz v)) ∧ ∀ v, v < n → ∀ x ∈ zz v, (v : Int) ∈ zz x.toNat

structure SG (w wr : World) (n v : Nat) (l : List Int) (S : Nat → Int) : Prop where
  below : Below w.heap.size w wr
  row : wr.rowIs w.heap.size 3 n (fun i => .int .i64 (S i))
  bnd : ∀ x, x < n → 0 ≤ S x ∧ S x ≤ (v : Int) + 1
  mark : ∀ x, x < n → (S x = (v : Int) + 1 ↔ (x : Int) ∈ l)

theorem SG.next {w wr : World} {n v : Nat} {l : List Int} {S : Nat → Int} (h : SG w wr n v l S) : SG w wr n (v + 1) [] S := by
  refine ⟨h.below, h.row, fun x hx => ?_, fun x hx => ?_⟩
  · have := h.bnd x hx; omega
  · have := h.bnd x hx
    simp; omega
theorem SG.put {w wr : World} {n v : Nat} {l : List Int} {S : Nat → Int} (h : SG w wr n v l S) (x : Nat) : SG w (wr.setCell ⟨w.heap.size, x, none⟩ (.int .i64 ((v : Int) + 1))) n v (l ++ [(x : Int)]) (up S x ((v : Int) + 1)) := by
  refine ⟨h.below.setCell (Nat.le_refl _) _, up_row (e := Value.int .i64) h.row x _, fun i hi => ?_, fun i hi => ?_⟩
  · unfold up
    split
    · omega
    · exact h.bnd i hi
  · unfold up
    by_cases e : i = x
    · subst e; simp
    · rw [if_neg e, h.mark i hi]
      simp
      omega

theorem row1_snoc {n v : Nat} {l : List Int} {x : Int} (h : Row1 n v l) (h1 : 0 ≤ x) (h2 : x < (n : Int)) (h3 : x ≠ (v : Int)) (h4 : x ∉ l) : Row1 n v (l ++ [x]) := by
  refine ⟨fun z hz => ?_, ?_⟩
  · rcases List.mem_append.1 hz with e | e
    · exact h.1 z e
    · rw [List.mem_singleton.1 e]; exact ⟨h1, h2, h3⟩
  · rw [List.nodup_append]
    refine ⟨h.2, by simp, fun a ha b hb e => ?_⟩
    rw [List.mem_singleton.1 hb] at e
    subst e
    exact h4 ha

set_option maxRecDepth 100000 in
set_option maxHeartbeats 4000000 in
theorem simple_any (A : Option Addr) (n c : Nat) (zz : Nat → List Int) (w : World) (hn : n ≤ 4096) (hZ : NbZ w A n zz) (hd : ∀ x, x < n → (zz x).length ≤ 65536) :
    Calls Try.prog 6 #[.slice A n c] w fun e w' => (∃ t : Bool, e = .returned (.bool t) ∧ (t = true → GrZ n zz)) ∧ Below w.heap.size w w' := by
  have HD := hide hd
  have HZ := hide hZ
  clear hd hZ
  have hmk2 := run_make_row' (P := Try.prog) 24 3 (.int .i64 0) 8 Try.underlying24 info3 rfl .i64 .i64 n (by omega) (by omega)
  go_enter Try.func6, Try.ntmps6
  go_wp2_with fail
  clear hmk2
  have hS0 : SG w (w.alloc (.cells (madeCells #[.int .i64 0] n) 3)) n 0 [] z0 := ⟨(Below.refl _ _).alloc (Nat.le_refl _) _, World.rowIs_made w _ n 3, fun x hx => by simp [z0], fun x hx => by simp [z0]⟩
  go_loopg [5] n (fun g i wr => ∃ (k : Nat) (S : Nat → Int), k ≤ n ∧ g = n - k ∧ i = .int .i64 k ∧ SG w wr n k [] S ∧ Hid (∀ v, v < k → Row1 n v (zz v)))
  case atStart => exact ⟨0, z0, Nat.zero_le _, rfl, rfl, hS0, hide (fun v hv => absurd hv (Nat.not_lt_zero _))⟩
  case round =>
    obtain ⟨k, S, hk, rfl, rfl, hS, hrows⟩ := hrel
    clear hS0
    by_cases hlt : k < n
    · obtain ⟨b, off, A', c', rfl, g0, hC, _⟩ := (HZ.out.below hS.below) k hlt
      have HC0 := hide (fun wr (hb : Below w.heap.size w wr) => (HZ.out.below hb) k hlt)
      have hdk := HD.out k hlt
      have hC' : Hid (∀ wr, Below w.heap.size w wr → ∀ i (hi : i < (zz k).length), ∃ b off, A' = some ⟨b, off, none⟩ ∧ wr.cell? ⟨b, off + i, none⟩ = some (.int .i64 (zz k)[i])) := hide (fun wr hb i hi => by
        obtain ⟨b0, off0, A0, c0, e1, e2, e3, _⟩ := HZ.out k hlt
        cases e1
        have e4 := hS.below.cell (cell_lt e2)
        rw [e2, g0] at e4
        simp only [Option.some.injEq, Value.slice.injEq] at e4
        obtain ⟨b1, off1, h1, h2⟩ := e3 i hi
        refine ⟨b1, off1, by rw [e4.1]; exact h1, ?_⟩
        rw [hb.cell (cell_lt h2), h2]
        simp [iz, List.getD, hi])
      clear hC HC0
      go_wp2_with fail
      clear g0
      go_loopg [25] (zz k).length (fun g i wr => ∃ (j : Nat) (S : Nat → Int), j ≤ (zz k).length ∧ g = (zz k).length - j ∧ i = .int .i64 j ∧ SG w wr n k ((zz k).take j) S ∧ Hid (Row1 n k ((zz k).take j)))
      case atStart => exact ⟨0, S, Nat.zero_le _, rfl, rfl, by simpa using hS, hide ⟨fun x hx => by simp at hx, by simp⟩⟩
      case round =>
        obtain ⟨j, S1, hj, rfl, rfl, hS1, hR1⟩ := hrel
        clear hS
        by_cases hjl : j < (zz k).length
        · obtain ⟨gb, of1, rfl, hc1⟩ := hC'.out _ hS1.below j hjl
          obtain ⟨x, hx⟩ : ∃ x, (zz k)[j] = x := ⟨_, rfl⟩
          rw [hx] at hc1
          have HT : Hid ((zz k).take (j + 1) = (zz k).take j ++ [x]) := hide (by rw [List.take_succ_eq_append_getElem hjl, hx])
          clear hx
          by_cases h1 : x < 0
          · have q1 : decide (x < 0) = true := decide_eq_true h1
            go_wp2_with fail
            go_ret
            first | exact ⟨⟨false, rfl, by simp⟩, hS1.below⟩ | exact ⟨Or.inl rfl, hS1.below⟩
          · have q1 : decide (x < 0) = false := decide_eq_false h1
            by_cases h2 : (n : Int) ≤ x
            · have q2 : decide ((n : Int) ≤ x) = true := decide_eq_true h2
              go_wp2_with fail
              go_ret
              first | exact ⟨⟨false, rfl, by simp⟩, hS1.below⟩ | exact ⟨Or.inl rfl, hS1.below⟩
            · have q2 : decide ((n : Int) ≤ x) = false := decide_eq_false h2
              obtain ⟨X, rfl⟩ : ∃ X : Nat, x = (X : Int) := ⟨x.toNat, by omega⟩
              have hXn : X < n := by omega
              by_cases h3 : X = k
              · have q3 : ((X : Int) == (k : Int)) = true := by rw [h3]; simp
                clear h1 h2 h3
                go_wp2_with fail
                go_ret
                first | exact ⟨⟨false, rfl, by simp⟩, hS1.below⟩ | exact ⟨Or.inl rfl, hS1.below⟩
              · have q3 : ((X : Int) == (k : Int)) = false := by simp; omega
                have lc := hS1.row.cell hXn
                have lf := hS1.row.frozen X
                have H3 := hide h3
                clear h1 h2 h3
                by_cases h4 : S1 X = (k : Int) + 1
                · have q4 : (S1 X == (k : Int) + 1) = true := by simpa using h4
                  have H4 := hide h4
                  clear h4
                  go_wp2_with fail
                  go_ret
                  first | exact ⟨⟨false, rfl, by simp⟩, hS1.below⟩ | exact ⟨Or.inl rfl, hS1.below⟩
                · have q4 : (S1 X == (k : Int) + 1) = false := by simpa using h4
                  have H4 := hide h4
                  clear h4
                  have hS2 := hS1.put X
                  go_wp2_with fail
                  go_roundg ((zz k).length - (j + 1))
                  case measure => omega
                  case rel =>
                    refine ⟨j + 1, _, by omega, rfl, by go_num, by rw [HT.out]; exact hS2, hide ?_⟩
                    rw [HT.out]
                    exact row1_snoc hR1.out (by omega) (by omega) (fun e => H3.out (by omega)) (fun h => H4.out ((hS1.mark X hXn).2 h))
        · have hall : (zz k).take j = zz k := List.take_of_length_le (by omega)
          rw [hall] at hR1 hS1
          have hS2 := hS1.next
          clear hall
          go_wp2_with fail
          go_roundg (n - (k + 1))
          case measure => omega
          case rel =>
            refine ⟨k + 1, S1, by omega, rfl, by go_num, hS2, hide (fun v hv => ?_)⟩
            by_cases e : v = k
            · subst e; exact hR1.out
            · exact hrows.out v (by omega)
    · have hkn : k = n := by omega
      subst hkn
      have hbel := hS.below
      clear hS
      go_wp2_with fail
      go_loopg [8] k (fun g i wr => Below w.heap.size w wr ∧ ∃ v : Nat, v ≤ k ∧ g = k - v ∧ i = .int .i64 v ∧ Hid (∀ a, a < v → ∀ x ∈ zz a, (a : Int) ∈ zz x.toNat))
      case atStart => exact ⟨hbel, 0, Nat.zero_le _, rfl, rfl, hide (fun a ha => absurd ha (Nat.not_lt_zero _))⟩
      case round =>
        obtain ⟨hb1, v, hv, rfl, rfl, hsym⟩ := hrel
        clear hbel
        by_cases hlt3 : v < k
        · obtain ⟨b, off, A', c', rfl, g0, hC, _⟩ := (HZ.out.below hb1) v hlt3
          have HC := hide hC
          clear hC
          have hdv := HD.out v hlt3
          go_wp2_with fail
          clear g0
          generalize wr = w5 at *
          go_loopg [66] (zz v).length (fun g i wr => w5 = wr ∧ ∃ j : Nat, j ≤ (zz v).length ∧ g = (zz v).length - j ∧ i = .int .i64 j ∧ Hid (∀ x ∈ (zz v).take j, (v : Int) ∈ zz x.toNat))
          case atStart => exact ⟨rfl, 0, Nat.zero_le _, rfl, rfl, hide (fun x hx => by simp at hx)⟩
          case round =>
            obtain ⟨rfl, j, hj, rfl, rfl, hpre⟩ := hrel
            by_cases hjl : j < (zz v).length
            · obtain ⟨gb, of1, rfl, hc1⟩ := HC.out j hjl
              have hz : iz (zz v) j = (zz v)[j] := by simp [iz, List.getD, hjl]
              simp only [hz] at hc1
              have hrow := (hrows.out v hlt3).1 _ (List.getElem_mem hjl)
              obtain ⟨x, hx⟩ : ∃ x, (zz v)[j] = x := ⟨_, rfl⟩
              rw [hx] at hc1 hrow
              have HT : Hid ((zz v).take (j + 1) = (zz v).take j ++ [x]) := hide (by rw [List.take_succ_eq_append_getElem hjl, hx])
              clear hx hz
              obtain ⟨X, rfl⟩ : ∃ X : Nat, x = (X : Int) := ⟨x.toNat, by omega⟩
              have hXn : X < k := by omega
              obtain ⟨b3, off3, A3, c3, e1, g3, hC3, _⟩ := (HZ.out.below hb1) X hXn
              cases e1
              have hdx := HD.out X hXn
              clear hrow
              go_wp2_with fail
              refine (contains_any A3 c3 (zz X) (v : Int) _ hC3 (by omega)).mono ?_
              rintro e w6 ⟨rfl, hw⟩
              rw [← hw]
              clear hw w6
              by_cases hm : (v : Int) ∈ zz X
              · rw [decide_eq_true hm]
                have HM := hide hm
                clear hm
                go_wp2_with fail
                go_roundg ((zz v).length - (j + 1))
                case measure => omega
                case rel =>
                  refine ⟨rfl, j + 1, by omega, rfl, by go_num, hide (fun z hz => ?_)⟩
                  rw [HT.out] at hz
                  rcases List.mem_append.1 hz with h | h
                  · exact hpre.out z h
                  · rw [List.mem_singleton.1 h]
                    exact HM.out
              · rw [decide_eq_false hm]
                clear hm
                go_wp2_with fail
                go_ret
                first | exact ⟨⟨false, rfl, by simp⟩, hb1⟩ | exact ⟨Or.inl rfl, hb1⟩
            · have hall : (zz v).take j = zz v := List.take_of_length_le (by omega)
              rw [hall] at hpre
              clear hall
              go_wp2_with fail
              go_roundg (k - (v + 1))
              case measure => omega
              case rel =>
                refine ⟨hb1, v + 1, by omega, rfl, by go_num, hide (fun a ha => ?_)⟩
                by_cases e : a = v
                · subst e; exact hpre.out
                · exact hsym.out a (by omega)
        · have HG : Hid (GrZ k zz) := hide ⟨hrows.out, fun a ha => hsym.out a (by omega)⟩
          go_wp2_with fail
          go_ret
          first | exact ⟨⟨true, rfl, fun _ => HG.out⟩, hb1⟩ | exact ⟨Or.inr ⟨rfl, HG.out⟩, hb1⟩
end Go.Proofs.Qxb6605238a
