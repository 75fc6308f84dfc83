import Derived.Test.Qxb6605238aFlt
namespace Go.Proofs.Qxb6605238a
open Go.RowKit Go.Deep
set_option linter.unusedVariables false
set_option linter.unusedSimpArgs false

variable {y : Lay} {tk : Nat → Bool} {rs cl : Nat → Int} {is : Nat → Bool} {nv : Value} {NL : List Nat} {wk : Int} {adj : Nat → List Nat}

/-- The order search's memory, 'near' left out. -/
structure OR (y : Lay) (wr : World) (tk : Nat → Bool) (rs cl : Nat → Int) (is : Nat → Bool) (nv : Value) (wk : Int) : Prop where
  str : wr.rowIs y.b 43 7 (FV y nv wk)
  rT : wr.rowIs y.T 4 y.nT (fun i => .bool (tk i))
  rR : wr.rowIs y.R 3 y.nR (fun i => .int .i64 (rs i))
  rC : wr.rowIs y.C 3 y.nC (fun i => .int .i64 (cl i))
  rI : wr.rowIs y.I 4 y.nI (fun i => .bool (is i))

theorem OS.rows {wr : World} (h : OS y wr tk rs cl is nv NL wk) : OR y wr tk rs cl is nv wk := ⟨h.str, h.rT, h.rR, h.rC, h.rI⟩
theorem OR.frm {wr w' : World} {M : Nat → Prop} (h : OR y wr tk rs cl is nv wk) (hf : Frm M wr w') (hm : ∀ k, Five y k → ¬ M k) : OR y w' tk rs cl is nv wk :=
  ⟨hf.row h.str (hm _ (by unfold Five; simp)), hf.row h.rT (hm _ (by unfold Five; simp)), hf.row h.rR (hm _ (by unfold Five; simp)), hf.row h.rC (hm _ (by unfold Five; simp)), hf.row h.rI (hm _ (by unfold Five; simp))⟩
theorem OR.os {wr : World} (h : OR y wr tk rs cl is nv wk) (ho : OwnI wr y.B nv (zl NL)) (hf : ∀ k, nv.ownBlock = some k → k ≠ y.b ∧ k ≠ y.T ∧ k ≠ y.R ∧ k ≠ y.C ∧ k ≠ y.I) : OS y wr tk rs cl is nv NL wk := ⟨h.str, h.rT, h.rR, h.rC, h.rI, ho, hf⟩
theorem OR.drewN {wr : World} (h : OR y wr tk rs cl is nv wk) (m : Nat) : OR y (wr.drewN m) tk rs cl is nv wk := ⟨h.str, h.rT, h.rR, h.rC, h.rI⟩
theorem OR.alloc {wr : World} (h : OR y wr tk rs cl is nv wk) (o : Obj) : OR y (wr.alloc o) tk rs cl is nv wk := ⟨h.str.alloc o, h.rT.alloc o, h.rR.alloc o, h.rC.alloc o, h.rI.alloc o⟩

theorem OR.setN {wr : World} (ok : y.Ok) (h : OR y wr tk rs cl is nv wk) (v1 : Value) (NL1 : List Nat) (ho : OwnI wr y.B v1 (zl NL1)) (hf : ∀ k, v1.ownBlock = some k → k ≠ y.b ∧ k ≠ y.T ∧ k ≠ y.R ∧ k ≠ y.C ∧ k ≠ y.I) :
    OS y (wr.setCell ⟨y.b, 4, none⟩ v1) tk rs cl is v1 NL1 wk := by
  obtain ⟨h1, h2, h3, h4, h5, _, _, _, _, _, _, _, _, _, _⟩ := ok
  refine ⟨(h.str.set 4 _).congr fun j hj => ?_, h.rT.setOther (by show _ ≠ y.b; omega) _, h.rR.setOther (by show _ ≠ y.b; omega) _, h.rC.setOther (by show _ ≠ y.b; omega) _, h.rI.setOther (by show _ ≠ y.b; omega) _, ho.setOther (fun e => (hf _ e).1 rfl) _, hf⟩
  match j, hj with
  | 0, _ => rfl
  | 1, _ => rfl
  | 2, _ => rfl
  | 3, _ => rfl
  | 4, _ => rfl
  | 5, _ => rfl
  | 6, _ => rfl

theorem frm_grown {w w1 : World} {row : Option Nat} (hg : w.grownBy w1 row) : Frm (fun k => row = some k) w w1 := (Frm.refl _ _).grown hg (fun k hk => Or.inl hk)
theorem frm_setCells {w : World} {b : Nat} : ∀ (vs : List Value) (o : Nat) {w' : World}, Frm (fun k => k = b) w w' → Frm (fun k => k = b) w (w'.setCells b o vs)
  | [], _, _, h => h
  | v :: r, o, w', h => frm_setCells r (o + 1) (h.setCell (p := ⟨b, o, none⟩) (Or.inl rfl) v)

theorem OS.frm {wr w' : World} {M : Nat → Prop} (h : OS y wr tk rs cl is nv NL wk) (hf : Frm M wr w') (hm : ∀ k, Five y k → ¬ M k) (hn : ∀ k, nv.ownBlock = some k → ¬ M k) : OS y w' tk rs cl is nv NL wk :=
  (h.rows.frm hf hm).os (hf.own h.own hn) h.far

theorem far_five (h : ∀ k, nv.ownBlock = some k → k ≠ y.b ∧ k ≠ y.T ∧ k ≠ y.R ∧ k ≠ y.C ∧ k ≠ y.I) {k : Nat} (h5 : Five y k) : nv.ownBlock ≠ some k := by
  intro e
  obtain ⟨a, b, c, d, f⟩ := h k e
  unfold Five at h5
  omega
theorem five_far (h : ∀ k, nv.ownBlock = some k → ¬ Five y k) (k : Nat) (hk : nv.ownBlock = some k) : k ≠ y.b ∧ k ≠ y.T ∧ k ≠ y.R ∧ k ≠ y.C ∧ k ≠ y.I := by
  have := h k hk
  unfold Five at this
  omega

theorem setCells_rep {w : World} {b n : Nat} {t : TypeId} {V : Nat → Value} (z : Value) (h : w.rowIs b t n V) : (w.setCells b 0 (List.replicate n z)).rowIs b t n (fun _ => z) := by
  refine (Go.rowIs_setCells (List.replicate n z) 0 w V h).congr fun j hj => ?_
  rw [if_pos (by simp [hj])]
  simp [hj]

theorem OS.clrT {wr : World} (ok : y.Ok) (h : OS y wr tk rs cl is nv NL wk) : OS y (wr.setCells y.T 0 (List.replicate y.nT (.bool false))) (fun _ => false) rs cl is nv NL wk := by
  have hf : Frm (fun k => k = y.T) wr (wr.setCells y.T 0 (List.replicate y.nT (.bool false))) := frm_setCells _ 0 (Frm.refl _ _)
  have h1 := ok.h1; have h2 := ok.h2; have h3 := ok.h3; have h4 := ok.h4; have h5 := ok.h5
  exact ⟨hf.row h.str (by omega), setCells_rep _ h.rT, hf.row h.rR (by omega), hf.row h.rC (by omega), hf.row h.rI (by omega), hf.own h.own (fun k hk => (h.far k hk).2.1), h.far⟩
theorem OS.clrC {wr : World} (ok : y.Ok) (h : OS y wr tk rs cl is nv NL wk) : OS y (wr.setCells y.C 0 (List.replicate y.nC (.int .i64 0))) tk rs (fun _ => 0) is nv NL wk := by
  have hf : Frm (fun k => k = y.C) wr (wr.setCells y.C 0 (List.replicate y.nC (.int .i64 0))) := frm_setCells _ 0 (Frm.refl _ _)
  have h1 := ok.h1; have h2 := ok.h2; have h3 := ok.h3; have h4 := ok.h4; have h5 := ok.h5
  exact ⟨hf.row h.str (by omega), hf.row h.rT (by omega), hf.row h.rR (by omega), setCells_rep _ h.rC, hf.row h.rI (by omega), hf.own h.own (fun k hk => (h.far k hk).2.2.2.1), h.far⟩
theorem OS.clrI {wr : World} (ok : y.Ok) (h : OS y wr tk rs cl is nv NL wk) : OS y (wr.setCells y.I 0 (List.replicate y.nI (.bool false))) tk rs cl (fun _ => false) nv NL wk := by
  have hf : Frm (fun k => k = y.I) wr (wr.setCells y.I 0 (List.replicate y.nI (.bool false))) := frm_setCells _ 0 (Frm.refl _ _)
  have h1 := ok.h1; have h2 := ok.h2; have h3 := ok.h3; have h4 := ok.h4; have h5 := ok.h5
  exact ⟨hf.row h.str (by omega), hf.row h.rT (by omega), hf.row h.rR (by omega), hf.row h.rC (by omega), setCells_rep _ h.rI, hf.own h.own (fun k hk => (h.far k hk).2.2.2.2), h.far⟩

theorem OR.clrT {wr : World} (ok : y.Ok) (h : OR y wr tk rs cl is nv wk) : OR y (wr.setCells y.T 0 (List.replicate y.nT (.bool false))) (fun _ => false) rs cl is nv wk := by
  have hf : Frm (fun k => k = y.T) wr (wr.setCells y.T 0 (List.replicate y.nT (.bool false))) := frm_setCells _ 0 (Frm.refl _ _)
  have h1 := ok.h1; have h2 := ok.h2; have h3 := ok.h3; have h4 := ok.h4; have h5 := ok.h5
  exact ⟨hf.row h.str (by omega), setCells_rep _ h.rT, hf.row h.rR (by omega), hf.row h.rC (by omega), hf.row h.rI (by omega)⟩
theorem OR.clrC {wr : World} (ok : y.Ok) (h : OR y wr tk rs cl is nv wk) : OR y (wr.setCells y.C 0 (List.replicate y.nC (.int .i64 0))) tk rs (fun _ => 0) is nv wk := by
  have hf : Frm (fun k => k = y.C) wr (wr.setCells y.C 0 (List.replicate y.nC (.int .i64 0))) := frm_setCells _ 0 (Frm.refl _ _)
  have h1 := ok.h1; have h2 := ok.h2; have h3 := ok.h3; have h4 := ok.h4; have h5 := ok.h5
  exact ⟨hf.row h.str (by omega), hf.row h.rT (by omega), hf.row h.rR (by omega), setCells_rep _ h.rC, hf.row h.rI (by omega)⟩
theorem OR.clrI {wr : World} (ok : y.Ok) (h : OR y wr tk rs cl is nv wk) : OR y (wr.setCells y.I 0 (List.replicate y.nI (.bool false))) tk rs cl (fun _ => false) nv wk := by
  have hf : Frm (fun k => k = y.I) wr (wr.setCells y.I 0 (List.replicate y.nI (.bool false))) := frm_setCells _ 0 (Frm.refl _ _)
  have h1 := ok.h1; have h2 := ok.h2; have h3 := ok.h3; have h4 := ok.h4; have h5 := ok.h5
  exact ⟨hf.row h.str (by omega), hf.row h.rT (by omega), hf.row h.rR (by omega), hf.row h.rC (by omega), setCells_rep _ h.rI⟩
theorem OR.setR {wr : World} (ok : y.Ok) (h : OR y wr tk rs cl is nv wk) (v : Nat) (z : Int) : OR y (wr.setCell ⟨y.R, v, none⟩ (.int .i64 z)) tk (up rs v z) cl is nv wk := by
  obtain ⟨h1, h2, h3, h4, h5, _, _, _, _, _, _, _, _, _, _⟩ := ok
  exact ⟨h.str.setOther (by show _ ≠ y.R; omega) _, h.rT.setOther (by show _ ≠ y.R; omega) _, up_row (e := Value.int .i64) h.rR v z, h.rC.setOther (by show _ ≠ y.R; omega) _, h.rI.setOther (by show _ ≠ y.R; omega) _⟩
theorem OR.rsEq {wr : World} {rs' : Nat → Int} (h : OR y wr tk rs cl is nv wk) (e : ∀ i, rs i = rs' i) : OR y wr tk rs' cl is nv wk := by
  have : rs = rs' := funext e
  rw [← this]; exact h

/-- 'near' cut to nothing, whatever it held. -/
theorem own_cut0 {wr : World} {B : Nat} {v : Value} {zs : List Int} (h : OwnI wr B v zs) : OwnI wr B (cut0 v) (zl []) ∧ (cut0 v).ownBlock = v.ownBlock := by
  rcases h.2 with ⟨h1, h2⟩ | ⟨g, cap, cur, h1, hB, hg, hle, hcm, hcs, ht⟩
  · rw [h1]
    exact ⟨OwnI.nil _ _, rfl⟩
  · rw [h1]
    exact ⟨⟨by simp [zl], Or.inr ⟨g, cap, cur, rfl, hB, hg, Nat.zero_le _, hcm, hcs, by simp [zl]⟩⟩, rfl⟩

/-- 'clear' of a row. -/
theorem zero3 (w : World) : (zeroValue 3).run Try.prog w = .ok (.int .i64 0) w := Try.zeroValue3 w
theorem zero4 (w : World) : (zeroValue 4).run Try.prog w = .ok (.bool false) w := Try.zeroValue4 w
theorem run_clr3 {w : World} {g n : Nat} {V : Nat → Value} (h : w.rowIs g 3 n V) (hn : 0 < n) (ty : TypeId) : (Builtin.clear_ #[24] ty #[.slice (some ⟨g, 0, none⟩) n n]).run Try.prog w = .ok (.tuple #[]) (w.setCells g 0 (List.replicate n (.int .i64 0))) :=
  Lib.run_clear_slice w 24 3 ty (.int .i64 0) Try.underlying24 zero3 rfl rfl g 0 n n hn (fun j hj => by rw [Nat.zero_add, h.cell hj]; rfl) (fun j hj => by rw [Nat.zero_add]; exact h.frozen j)
theorem run_clr4 {w : World} {g n : Nat} {V : Nat → Value} (h : w.rowIs g 4 n V) (hn : 0 < n) (ty : TypeId) : (Builtin.clear_ #[23] ty #[.slice (some ⟨g, 0, none⟩) n n]).run Try.prog w = .ok (.tuple #[]) (w.setCells g 0 (List.replicate n (.bool false))) :=
  Lib.run_clear_slice w 23 4 ty (.bool false) Try.underlying23 zero4 rfl rfl g 0 n n hn (fun j hj => by rw [Nat.zero_add, h.cell hj]; rfl) (fun j hj => by rw [Nat.zero_add]; exact h.frozen j)

/-- 's[:0]'. -/
theorem run_cut0 (A : Option Addr) (m c : Nat) (hA : ∀ a, A = some a → ∃ g, a = ⟨g, 0, none⟩) (w : World) : (Instr.slice 24 (.slice A m c) none (some (.int .i64 0)) none).run Try.prog w = .ok (.slice A 0 c) w := by
  cases A with
  | none => simp [go_sem, Try.underlying24, Instr.slice, Instr.sliceBounds, run_underlying Try.underlying24]
  | some a =>
    obtain ⟨g, rfl⟩ := hA a rfl
    simp [go_sem, Try.underlying24, Instr.slice, Instr.sliceBounds, run_underlying Try.underlying24]

def Sev (y : Lay) (nv ov : Value) (k : Nat) : Prop := Five y k ∨ nv.ownBlock = some k ∨ ov.ownBlock = some k
end Go.Proofs.Qxb6605238a
