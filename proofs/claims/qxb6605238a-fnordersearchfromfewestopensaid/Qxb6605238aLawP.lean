import Derived.Test.Qxb6605238aPrep
import Derived.Test.Qxb6605238aPlain3
namespace Go.Proofs.Qxb6605238a
open Go.RowKit Go.Deep
set_option linter.unusedVariables false
set_option linter.unusedSimpArgs false

/-- The memory that the law's checks read. -/
structure PB (w0 : World) (adj : Nat → List Nat) (n n1 n2 n3 n5 : Nat) (L : List Nat) (pre : List Int) (r0 : Nat → Int) (NL : List Nat) (G T R C I gb wb rb : Nat) (Ap An : Option Addr) (W : World) : Prop where
  out : Below w0.heap.size w0 W
  got : ∀ i, i < n → W.cell? ⟨gb, i, none⟩ = some (.int .i64 (iz (pre ++ zl L) i))
  want : ∀ i (h : i < L.length), W.cell? ⟨wb, i, none⟩ = some (.int .i64 ((L[i] : Nat) : Int))
  prf : Cells W Ap pre.length (fun i => .int .i64 (iz pre i))
  rin : W.rowIs rb 3 n2 (fun i => .int .i64 (r0 i))
  rT : W.rowIs T 4 n1 (fun i => .bool (inL L i))
  rR : W.rowIs R 3 n2 (fun i => .int .i64 (rsS n adj L r0 i))
  rC : W.rowIs C 3 n3 (fun i => .int .i64 (clS n adj L i))
  rI : W.rowIs I 4 n5 (fun i => .bool (isS n adj L i))
  nea : Cells W An NL.length (fun i => .int .i64 (iz (zl NL) i))
  nb : ∃ B, Nb W B G n adj

theorem PB.below {w0 : World} {adj : Nat → List Nat} {n n1 n2 n3 n5 : Nat} {L : List Nat} {pre : List Int} {r0 : Nat → Int} {NL : List Nat} {G T R C I gb wb rb : Nat} {Ap An : Option Addr} {W W' : World}
    (h : PB w0 adj n n1 n2 n3 n5 L pre r0 NL G T R C I gb wb rb Ap An W) (hb : Below W.heap.size W W') : PB w0 adj n n1 n2 n3 n5 L pre r0 NL G T R C I gb wb rb Ap An W' := by
  obtain ⟨B, hN⟩ := h.nb
  exact ⟨below_tr h.out h.out.size hb, fun i hi => by rw [hb.cell (cell_lt (h.got i hi))]; exact h.got i hi, fun i hi => by rw [hb.cell (cell_lt (h.want i hi))]; exact h.want i hi, h.prf.below hb, rowB h.rin hb, rowB h.rT hb, rowB h.rR hb, rowB h.rC hb, rowB h.rI hb, h.nea.below hb, B, hN.belowB hb⟩

theorem own_slice {w : World} {base : Nat} {v : Value} {zs : List Int} (h : OwnI w base v zs) (h0 : 0 < zs.length) : ∃ g cap, v = .slice (some ⟨g, 0, none⟩) zs.length cap ∧ base ≤ g := by
  obtain ⟨A, cap, rfl, hA, _⟩ := h.shape
  obtain ⟨g, rfl⟩ := hA h0
  exact ⟨g, cap, rfl, (World.ownsRow.lt h g rfl).1⟩

set_option maxHeartbeats 1600000 in
theorem zz_law {adj : Nat → List Nat} {n n1 n2 n3 n4 n5 n8 c4 c8 cp m : Nat} (wk : Int) (start : Nat) {tk is : Nat → Bool} {r0 cl : Nat → Int} {w0 w : World} {B G T R C I wb cw rb E2 : Nat} {A4 A8 Ap : Option Addr} {zs4 pre : List Int} {L0 : List Nat}
    (hb : Below w0.heap.size w0 w) (hB0 : w0.heap.size ≤ B) (hg : Gr n adj) (hN : Nb w B G n adj) (hd : ∀ x, x < n → (adj x).length ≤ 65536) (hst : start < n) (hm : n8 + m = n) (hm0 : 0 < m)
    (o1 : B ≤ T) (o2 : T < R) (o3 : R < C) (o4 : C < I) (o5 : I < rb) (o6 : rb < E2) (o7 : rb < w.heap.size)
    (i1 : n ≤ n1) (i2 : n ≤ n2) (i3 : n ≤ n3) (i5 : n ≤ n5) (j1 : n1 ≤ 65536) (j2 : n2 ≤ 65536) (j3 : n3 ≤ 65536) (j5 : n5 ≤ 65536)
    (rT : w.rowIs T 4 n1 (fun i => .bool (tk i))) (rR : w.rowIs R 3 n2 (fun i => .int .i64 (r0 i))) (rC : w.rowIs C 3 n3 (fun i => .int .i64 (cl i))) (rI : w.rowIs I 4 n5 (fun i => .bool (is i)))
    (hnear : OwnI w B (.slice A4 n4 c4) zs4) (bnear : ∀ k, (Value.slice A4 n4 c4).ownBlock = some k → C < k ∧ k < I)
    (hord : OwnI w B (.slice A8 n8 c8) pre) (bord : ∀ k, (Value.slice A8 n8 c8).ownBlock = some k → I < k ∧ k < rb)
    (rin : w.rowIs rb 3 n2 (fun i => .int .i64 (r0 i))) (hprf : OwnI w E2 (.slice Ap n8 cp) pre)
    (hwant : OwnI w E2 (.slice (some ⟨wb, 0, none⟩) m cw) (zl L0)) (hrun : Run n adj start L0) (hlen : L0.length = m) :
    Calls Try.prog 11 #[.slice (some ⟨G, 0, none⟩) n n, .slice (some ⟨T, 0, none⟩) n1 n1, .slice (some ⟨R, 0, none⟩) n2 n2, .slice (some ⟨C, 0, none⟩) n3 n3, .slice A4 n4 c4, .slice (some ⟨I, 0, none⟩) n5 n5, .int .i64 wk, .int .i64 start, .slice A8 n8 c8] w
      fun e w' => ∃ gb gc An cn NL last wk', e = .returned (.tuple #[.slice (some ⟨gb, 0, none⟩) n gc, .slice (some ⟨T, 0, none⟩) n1 n1, .slice (some ⟨R, 0, none⟩) n2 n2, .slice (some ⟨C, 0, none⟩) n3 n3, .slice An (List.length NL) cn, .slice (some ⟨I, 0, none⟩) n5 n5, .int .i64 wk']) ∧
        PB w0 adj n n1 n2 n3 n5 L0 pre r0 NL G T R C I gb wb rb Ap An w' ∧ L0.getLast? = some last ∧ Near n adj L0 last NL := by
  have hpl : n8 = pre.length := by
    obtain ⟨A1, c1, e, _⟩ := hord.shape
    simp only [Value.slice.injEq] at e
    exact e.2.1
  have hy : Lay.Ok ⟨B, w.heap.size, T, R, C, I, n1, n2, n3, n5, n, G⟩ := ⟨o1, o2, o3, o4, by show I < w.heap.size; omega, i1, i2, i3, i5, j1, j2, j3, j5, hN.lt, by show 0 < n; omega⟩
  have h5 : ∀ k, Five ⟨B, w.heap.size, T, R, C, I, n1, n2, n3, n5, n, G⟩ k → k = w.heap.size ∨ k = T ∨ k = R ∨ k = C ∨ k = I := fun k h => h
  have far4 : ∀ k, (Value.slice A4 n4 c4).ownBlock = some k → ¬ Five ⟨B, w.heap.size, T, R, C, I, n1, n2, n3, n5, n, G⟩ k := by
    intro k hk h
    have := bnear k hk
    have := h5 k h
    omega
  have far8 : ∀ k, (Value.slice A8 n8 c8).ownBlock = some k → ¬ Five ⟨B, w.heap.size, T, R, C, I, n1, n2, n3, n5, n, G⟩ k ∧ (Value.slice A4 n4 c4).ownBlock ≠ some k := by
    intro k hk
    have h1 := bord k hk
    refine ⟨fun h => ?_, fun h => ?_⟩
    · have := h5 k h
      omega
    · have := bnear k h
      omega
  refine (zz_any (y := ⟨B, w.heap.size, T, R, C, I, n1, n2, n3, n5, n, G⟩) (tk := tk) (cl := cl) (is := is) hy hg start hst r0 w rfl A4 n4 c4 (.slice A8 n8 c8) pre hord (by show pre.length < n; omega) far8 rT rR rC rI hnear far4 hN hd).mono ?_
  rintro e w' ⟨ov', L, nv', NL, last, wk', rfl, hov, hrun', hlen', hO, hlast, hNear, hF⟩
  have hll : L.length = L0.length := by rw [hlen', hlen]; show n - pre.length = m; omega
  have hLL : L = L0 := hrun'.unique hrun hll
  subst hLL
  have hS : ∀ k, Sev ⟨B, w.heap.size, T, R, C, I, n1, n2, n3, n5, n, G⟩ (.slice A4 n4 c4) (.slice A8 n8 c8) k → B ≤ k ∧ (k < rb ∨ k = w.heap.size) := by
    intro k h
    rcases h with h | h | h
    · have := h5 k h; omega
    · have := bnear k h; omega
    · have := bord k h; omega
  have hlz : (zl L).length = L.length := by simp [zl]
  have hov2 := hov
  obtain ⟨gb, gc, rfl, _⟩ := own_slice hov (by simp only [List.length_append, hlz]; omega)
  have hgl : (pre ++ zl L).length = n := by simp only [List.length_append, hlz]; omega
  rw [hgl] at hov hov2 ⊢
  obtain ⟨An, cn, rfl, hnc, _⟩ := hO.own.cells
  have hln : (zl NL).length = NL.length := by simp [zl]
  have hown : OwnI w' E2 _ (zl L) := hF.own hwant (fun k hk h => by
    have h1 := hS k h
    have h2 := World.ownsRow.lt hwant k hk
    omega)
  have hpr : OwnI w' E2 _ pre := hF.own hprf (fun k hk h => by
    have h1 := hS k h
    have h2 := World.ownsRow.lt hprf k hk
    omega)
  obtain ⟨A1, c1, e1, hpc, _⟩ := hpr.cells
  simp only [Value.slice.injEq] at e1
  obtain ⟨rfl, _, rfl⟩ := e1
  rw [hln] at hnc ⊢
  refine ⟨gb, gc, An, cn, NL, last, wk', rfl, ⟨?_, ?_, ?_, hpc, ?_, hO.rT, hO.rR, hO.rC, hO.rI, hnc, B, ?_⟩, hlast, hNear⟩
  · exact below_frm hb hb.size hF (fun k hk h => by have := hS k h; omega)
  · intro i hi
    exact hov2.cell (by rw [hgl]; exact hi)
  · intro i hi
    rw [hown.cell (j := i) (by rw [hlz]; exact hi), iz_zl hi]
  · exact hF.row rin (fun h => by have := hS _ h; omega)
  · exact hN.frm hF (fun k hk h => by have := hS k h; omega)
end Go.Proofs.Qxb6605238a
