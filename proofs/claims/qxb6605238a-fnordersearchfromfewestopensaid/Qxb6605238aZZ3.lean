import Derived.Test.Qxb6605238aFrom
namespace Go.Proofs.Qxb6605238a
open Go.RowKit Go.Deep
set_option linter.unusedVariables false
set_option linter.unusedSimpArgs false

variable {y : Lay} {tk : Nat → Bool} {rs cl : Nat → Int} {is : Nat → Bool} {nv : Value} {NL : List Nat} {wk : Int} {adj : Nat → List Nat}

theorem box_row (y : Lay) (nv : Value) (wk : Int) (w : World) : (w.alloc (.cells #[sl y.G y.n, sl y.T y.nT, sl y.R y.nR, sl y.C y.nC, nv, sl y.I y.nI, .int .i64 wk] 43)).rowIs w.heap.size 43 7 (FV y nv wk) := by
  refine World.rowIs_alloc w _ 43 (FV y nv wk) (fun i hi => ?_)
  match i, hi with
  | 0, _ => rfl
  | 1, _ => rfl
  | 2, _ => rfl
  | 3, _ => rfl
  | 4, _ => rfl
  | 5, _ => rfl
  | 6, _ => rfl

set_option maxRecDepth 100000 in
set_option maxHeartbeats 4000000 in
theorem zz_any (ok : y.Ok) (G : Gr y.n adj) (start : Nat) (hst : start < y.n) (r0 : Nat → Int) (w : World) (hb : y.b = w.heap.size) (A : Option Addr) (m c : Nat) (ov : Value) (pre : List Int) (hov : OwnI w y.B ov pre) (hpl : pre.length < y.n)
    (hof : ∀ k, ov.ownBlock = some k → ¬ Five y k ∧ (Value.slice A m c).ownBlock ≠ some k)
    (rT : w.rowIs y.T 4 y.nT (fun i => .bool (tk i))) (rR : w.rowIs y.R 3 y.nR (fun i => .int .i64 (r0 i))) (rC : w.rowIs y.C 3 y.nC (fun i => .int .i64 (cl i))) (rI : w.rowIs y.I 4 y.nI (fun i => .bool (is i)))
    {zs : List Int} (hnear : OwnI w y.B (.slice A m c) zs) (far : ∀ k, (Value.slice A m c).ownBlock = some k → ¬ Five y k)
    (hN : Nb w y.B y.G y.n adj) (hd : ∀ x, x < y.n → (adj x).length ≤ 65536) :
    Calls Try.prog 11 #[.slice (some ⟨y.G, 0, none⟩) y.n y.n, .slice (some ⟨y.T, 0, none⟩) y.nT y.nT, .slice (some ⟨y.R, 0, none⟩) y.nR y.nR, .slice (some ⟨y.C, 0, none⟩) y.nC y.nC, .slice A m c, .slice (some ⟨y.I, 0, none⟩) y.nI y.nI, .int .i64 wk, .int .i64 start, ov] w
      fun e w' => ∃ ov' L nv' NL' last wk', e = .returned (.tuple #[ov', sl y.T y.nT, sl y.R y.nR, sl y.C y.nC, nv', sl y.I y.nI, .int .i64 wk']) ∧ OwnI w' y.B ov' (pre ++ zl L) ∧ Run y.n adj start L ∧ L.length = y.n - pre.length ∧ OS y w' (inL L) (rsS y.n adj L r0) (clS y.n adj L) (isS y.n adj L) nv' NL' wk' ∧ L.getLast? = some last ∧ Near y.n adj L last NL' ∧ Frm (Sev y (.slice A m c) ov) w w' := by
  have hO : OR y (w.alloc (.cells #[sl y.G y.n, sl y.T y.nT, sl y.R y.nR, sl y.C y.nC, .slice A m c, sl y.I y.nI, .int .i64 wk] 43)) tk r0 cl is (.slice A m c) wk :=
    ⟨by rw [hb]; exact box_row y _ wk w, rT.alloc _, rR.alloc _, rC.alloc _, rI.alloc _⟩
  have hN' := hN.frm ((Frm.refl (fun _ => False) w).alloc (.cells #[sl y.G y.n, sl y.T y.nT, sl y.R y.nR, sl y.C y.nC, .slice A m c, sl y.I y.nI, .int .i64 wk] 43)) (fun _ _ h => h)
  have hf := from_any ok G start hst r0 _ ov pre (hov.alloc _) hpl hof hO (hnear.alloc _) far hN' hd
  rw [hb] at hf
  clear hO hN'
  go_enter Try.func11, Try.ntmps11
  go_wp2_with fail
  refine Calls.mono hf ?_
  rintro e w1 ⟨ov', L, nv', NL', last, rfl, ho, hrun, hlen, ⟨wk', hO⟩, hlast, hNear, hF⟩
  have s1 := hO.s1; have s2 := hO.s2; have s3 := hO.s3; have s4 := hO.s4; have s5 := hO.s5; have s6 := hO.s6
  rw [hb] at s1 s2 s3 s4 s5 s6
  go_wp2_with fail
  go_quiet (fail)
  go_wp2_with fail
  (try simp only [Exit.inBlock, Exit.then])
  refine bodyPost_ret (by simp [results, Try.results11, go_sem]; try rfl) rfl ?_
  refine ⟨ov', L, nv', NL', last, wk', rfl, ho.drewN _, hrun, hlen, hO.drewN _, hlast, hNear, ?_⟩
  exact (((Frm.refl _ w).alloc _).trans hF).drewN _
end Go.Proofs.Qxb6605238a
