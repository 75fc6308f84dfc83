import Derived.Test.Qxb6605238aSimple2
namespace Go.Proofs.Qxb6605238a
open Go.RowKit Go.Deep
set_option linter.unusedVariables false
set_option linter.unusedSimpArgs false

/-- The copy's row, k of the lists copied. -/
structure CN (w wr : World) (n : Nat) (zz : Nat → List Int) (k : Nat) (V : Nat → Value) : Prop where
  below : Below w.heap.size w wr
  row : wr.rowIs w.heap.size 24 n V
  done : ∀ v, v < k → ∃ A c, V v = .slice A (zz v).length c ∧ Cells wr A (zz v).length (fun i => .int .i64 (iz (zz v) i)) ∧ ∀ a, A = some a → w.heap.size < a.block ∧ a.block < wr.heap.size

theorem CN.step {w wr w1 : World} {n : Nat} {zz : Nat → List Int} {k : Nat} {V : Nat → Value} (h : CN w wr n zz k V) (hb : Below wr.heap.size wr w1) (A : Option Addr) (c : Nat) (hC : Cells w1 A (zz k).length (fun i => .int .i64 (iz (zz k) i))) (hA : ∀ a, A = some a → w.heap.size < a.block ∧ a.block < w1.heap.size) :
    CN w (w1.setCell ⟨w.heap.size, k, none⟩ (.slice A (zz k).length c)) n zz (k + 1) (up V k (.slice A (zz k).length c)) := by
  have hsz := h.below.size
  have hlt := h.row.lt
  have keep2 : ∀ {A B : Option Addr} {m p : Nat} {q : Nat} {U : Nat → Value}, Cells w1 A m U → (∀ a, A = some a → w.heap.size < a.block) → Cells (w1.setCell ⟨w.heap.size, k, none⟩ (.slice B p q)) A m U := by
    intro A B m p q U hc ha i hi
    obtain ⟨b, off, e, h1⟩ := hc i hi
    refine ⟨b, off, e, ?_⟩
    have hne : b ≠ w.heap.size := by have := ha _ e; simp at this; omega
    rw [World.cell?_of_block (w := w1) (Below.heap_setCell _ _ _ _ (by simpa using hne))]
    exact h1
  refine ⟨(h.below.trans (hb.mono hsz)).setCell (Nat.le_refl _) _, ?_, fun v hv => ?_⟩
  · have h1 : w1.rowIs w.heap.size 24 n V := h.row.of_block (hb.block _ hlt)
    exact up_row (e := id) h1 k _
  · unfold up
    by_cases e : v = k
    · subst e
      rw [if_pos rfl]
      exact ⟨A, c, rfl, keep2 hC (fun a ha => (hA a ha).1), fun a ha => by simpa [World.setCell] using hA a ha⟩
    · rw [if_neg e]
      obtain ⟨A1, c1, h1, h2, h3⟩ := h.done v (by omega)
      refine ⟨A1, c1, h1, keep2 (h2.below hb) (fun a ha => (h3 a ha).1), fun a ha => ?_⟩
      have := h3 a ha
      have := hb.size
      simp only [World.setCell]
      refine ⟨(h3 a ha).1, ?_⟩
      simp
      omega

set_option maxRecDepth 100000 in
set_option maxHeartbeats 4000000 in
theorem cloneNested_any (a : Addr) (n c : Nat) (zz : Nat → List Int) (w : World) (hn : n ≤ 4096) (hZ : NbZ w (some a) n zz) (hd : ∀ x, x < n → (zz x).length ≤ 65536) :
    Calls Try.prog 7 #[.slice (some a) n c] w fun e w' => e = .returned (.slice (some ⟨w.heap.size, 0, none⟩) n n) ∧ ∃ V, CN w w' n zz n V := by
  have HD := hide hd
  have HZ := hide hZ
  clear hd hZ
  have hmk := run_make_row' (P := Try.prog) 22 24 (.slice none 0 0) 24 Try.underlying22 info24 rfl .i64 .i64 n (by omega) (by omega)
  have heq := fun w a n c => Lib.run_eql_slice_nil (P := Try.prog) w 22 24 a n c 0 0 Try.underlying22
  go_enter Try.func7, Try.ntmps7
  go_wp2_with fail
  clear hmk heq
  have h0 : CN w (w.alloc (.cells (madeCells #[.slice none 0 0] n) 24)) n zz 0 (fun _ => .slice none 0 0) := ⟨(Below.refl _ _).alloc (Nat.le_refl _) _, World.rowIs_made w _ n 24, fun v hv => absurd hv (Nat.not_lt_zero _)⟩
  go_loopg [4] n (fun g i wr => ∃ (k : Nat) (V : Nat → Value), k ≤ n ∧ g = n - k ∧ i = .int .i64 k ∧ CN w wr n zz k V ∧ Hid (∀ j, k ≤ j → V j = .slice none 0 0))
  case atStart => exact ⟨0, _, Nat.zero_le _, rfl, rfl, h0, hide (fun _ _ => rfl)⟩
  case round =>
    obtain ⟨k, V, hk, rfl, rfl, hC, hz⟩ := hrel
    clear h0
    by_cases hlt : k < n
    · obtain ⟨b, off, A', c', e1, g0, hCc, hnil⟩ := (HZ.out.below hC.below) k hlt
      cases e1
      have hdk := HD.out k hlt
      have rc := hC.row.cell hlt
      have rf := hC.row.frozen k
      rw [hz.out k (Nat.le_refl _)] at rc
      have hsz := hC.below.size
      have hrl := hC.row.lt
      cases A' with
      | none =>
        obtain ⟨hl0, hc0⟩ := hnil rfl
        subst hc0
        have hst := hC.step (Below.refl _ _) none 0 (fun i hi => absurd hi (by omega)) (fun a ha => by cases ha)
        rw [hl0] at g0 hst
        go_wp2_with fail
        refine (cloneInts9_nil _).mono ?_
        rintro e w' ⟨rfl, hw⟩
        rw [hw]
        clear hw w'
        go_wp2_with fail
        go_roundg (n - (k + 1))
        case measure => omega
        case rel => exact ⟨k + 1, _, by omega, rfl, by go_num, hst, hide (fun j hj => by unfold up; rw [if_neg (by omega)]; exact hz.out j (by omega))⟩
      | some a' =>
        go_wp2_with fail
        refine (cloneInts9 a' c' (zz k).length (fun i => iz (zz k) i) _ hCc (by omega)).mono ?_
        rintro e w1 ⟨rfl, hcp⟩
        have hst := hC.step hcp.below (some ⟨_, 0, none⟩) (zz k).length (cells_of_row hcp.row) (fun a ha => by
          cases ha
          have := hcp.size
          simp only
          omega)
        have rc1 := hcp.below.cell (p := ⟨w.heap.size, k, none⟩) hrl
        have rf1 := hcp.below.frozen (p := ⟨w.heap.size, k, none⟩) hrl
        rw [rc] at rc1
        rw [rf] at rf1
        clear hcp
        go_wp2_with fail
        go_roundg (n - (k + 1))
        case measure => omega
        case rel => exact ⟨k + 1, _, by omega, rfl, by go_num, hst, hide (fun j hj => by unfold up; rw [if_neg (by omega)]; exact hz.out j (by omega))⟩
    · have hkn : n = k := by omega
      subst hkn
      go_wp2_with fail
      go_ret
      exact ⟨rfl, V, hC⟩

/-- The copy's lists. -/
theorem CN.nb {w wr : World} {n : Nat} {adj : Nat → List Nat} {V : Nat → Value} (h : CN w wr n (fun v => zl (adj v)) n V) : Nb wr wr.heap.size w.heap.size n adj := by
  refine ⟨h.row.lt, fun v hv => ?_⟩
  obtain ⟨A, c, h1, h2, h3⟩ := h.done v hv
  have hl : (zl (adj v)).length = (adj v).length := by simp [zl]
  refine ⟨A, c, by rw [h.row.cell hv, h1, hl], fun i hi => ?_, fun a ha => (h3 a ha).2⟩
  obtain ⟨b, off, e1, e2⟩ := h2 i (by rw [hl]; exact hi)
  refine ⟨b, off, e1, ?_⟩
  rw [e2]
  simp [iz, zl, List.getD, hi]

end Go.Proofs.Qxb6605238a
