import Derived.Test.Qxb6605238aOwn
import Derived.Test.Qxb6605238aPl2
import Derived.Maps.AppendAt
namespace Go.Proofs.Qxb6605238a
open Go.RowKit Go.Deep
set_option linter.unusedVariables false
set_option linter.unusedSimpArgs false

/-- Of the blocks that were, only those of M may turn. -/
structure Frm (M : Nat → Prop) (w w' : World) : Prop where
  os : w'.os = w.os
  tape : w'.tape = w.tape
  output : w'.output = w.output
  size : w.heap.size ≤ w'.heap.size
  block : ∀ k, k < w.heap.size → ¬ M k → w'.heap[k]? = w.heap[k]?

theorem Frm.refl (M : Nat → Prop) (w : World) : Frm M w w := ⟨rfl, rfl, rfl, Nat.le_refl _, fun _ _ _ => rfl⟩
theorem Frm.trans {M : Nat → Prop} {a b c : World} (h : Frm M a b) (k : Frm M b c) : Frm M a c :=
  ⟨k.os.trans h.os, k.tape.trans h.tape, k.output.trans h.output, Nat.le_trans h.size k.size, fun i hi hm => (k.block i (Nat.lt_of_lt_of_le hi h.size) hm).trans (h.block i hi hm)⟩
theorem Frm.mono {M M' : Nat → Prop} {w w' : World} (h : Frm M w w') (hm : ∀ k, k < w.heap.size → M k → M' k) : Frm M' w w' :=
  ⟨h.os, h.tape, h.output, h.size, fun k hk hn => h.block k hk (fun h2 => hn (hm k hk h2))⟩
theorem Frm.drewN {M : Nat → Prop} {a w : World} (h : Frm M a w) (m : Nat) : Frm M a (w.drewN m) := ⟨h.os, h.tape, h.output, h.size, h.block⟩
theorem Frm.alloc {M : Nat → Prop} {a w : World} (h : Frm M a w) (o : Obj) : Frm M a (w.alloc o) :=
  ⟨h.os, h.tape, h.output, by have := h.size; simp; omega, fun k hk hm => by rw [Below.heap_alloc w o k (Nat.lt_of_lt_of_le hk h.size)]; exact h.block k hk hm⟩
theorem Frm.setCell {M : Nat → Prop} {a w : World} (h : Frm M a w) {p : Addr} (hp : M p.block ∨ a.heap.size ≤ p.block) (u : Value) : Frm M a (w.setCell p u) :=
  ⟨h.os, h.tape, h.output, by have := h.size; simpa [World.setCell] using this, fun k hk hm => by
    rw [Below.heap_setCell _ _ _ _ (fun e => ?_)]
    · exact h.block k hk hm
    · rcases hp with hp | hp
      · exact hm (e ▸ hp)
      · omega⟩
theorem Frm.grown {M : Nat → Prop} {a w w' : World} {row : Option Nat} (h : Frm M a w) (hg : w.grownBy w' row) (hr : ∀ k, row = some k → M k ∨ a.heap.size ≤ k) : Frm M a w' :=
  ⟨hg.os.trans h.os, hg.tape.trans h.tape, hg.output.trans h.output, Nat.le_trans h.size hg.size, fun k hk hm => by
    rw [hg.block k (Nat.lt_of_lt_of_le hk h.size) (fun e => ?_)]
    · exact h.block k hk hm
    · rcases hr k e.symm with hp | hp
      · exact hm hp
      · omega⟩
theorem Frm.cell {M : Nat → Prop} {w w' : World} (h : Frm M w w') {a : Addr} {v : Value} (hc : w.cell? a = some v) (hm : ¬ M a.block) : w'.cell? a = some v := by
  rw [World.cell?_of_block (w := w) (h.block a.block (cell_lt hc) hm)]; exact hc
theorem Frm.row {M : Nat → Prop} {w w' : World} (h : Frm M w w') {b n : Nat} {t : TypeId} {V : Nat → Value} (hc : w.rowIs b t n V) (hm : ¬ M b) : w'.rowIs b t n V := hc.of_block (h.block b hc.lt hm)
theorem Frm.own {M : Nat → Prop} {w w' : World} (h : Frm M w w') {base : Nat} {v : Value} {zs : List Int} (ho : OwnI w base v zs) (hm : ∀ k, v.ownBlock = some k → ¬ M k) : OwnI w' base v zs := by
  rcases ho.2 with ⟨h3, h4⟩ | ⟨g, cap, cur, h3, h5, h6, h7⟩
  · exact ⟨ho.1, Or.inl ⟨h3, h4⟩⟩
  · refine ⟨ho.1, Or.inr ⟨g, cap, cur, h3, h5, ?_, h7⟩⟩
    have hlt : g < w.heap.size := by
      rcases Nat.lt_or_ge g w.heap.size with h' | h'
      · exact h'
      · simp [Array.getElem?_eq_none h'] at h6
    rw [h.block g hlt (hm g (by rw [h3]; rfl))]
    exact h6

/-- The neighbour lists, in blocks below B. -/
structure Nb (w : World) (B G n : Nat) (adj : Nat → List Nat) : Prop where
  lt : G < B
  at_ : ∀ v, v < n → ∃ A c, w.cell? ⟨G, v, none⟩ = some (.slice A (adj v).length c) ∧ Cells w A (adj v).length (fun i => .int .i64 (((adj v).getD i 0 : Nat) : Int)) ∧ ∀ a, A = some a → a.block < B

theorem Nb.frm {M : Nat → Prop} {w w' : World} {B G n : Nat} {adj : Nat → List Nat} (h : Nb w B G n adj) (hf : Frm M w w') (hm : ∀ k, k < B → ¬ M k) : Nb w' B G n adj := by
  refine ⟨h.lt, fun v hv => ?_⟩
  obtain ⟨A, c, h1, h2, h3⟩ := h.at_ v hv
  refine ⟨A, c, hf.cell h1 (hm _ h.lt), fun i hi => ?_, h3⟩
  obtain ⟨b, off, hA, h4⟩ := h2 i hi
  exact ⟨b, off, hA, hf.cell h4 (hm b (h3 ⟨b, off, none⟩ hA))⟩
theorem Nb.drewN {w : World} {B G n : Nat} {adj : Nat → List Nat} (h : Nb w B G n adj) (m : Nat) : Nb (w.drewN m) B G n adj := h.frm ((Frm.refl (fun _ => False) w).drewN m) (fun _ _ h => h)

theorem Nb.get {w : World} {B G n : Nat} {adj : Nat → List Nat} (h : Nb w B G n adj) {v : Nat} (hv : v < n) : ∃ A c, w.cell? ⟨G, v, none⟩ = some (.slice A (adj v).length c) ∧ ∀ i (hi : i < (adj v).length), ∃ b off, A = some ⟨b, off, none⟩ ∧ w.cell? ⟨b, off + i, none⟩ = some (.int .i64 ((adj v)[i] : Int)) := by
  obtain ⟨A, c, h1, h2, _⟩ := h.at_ v hv
  refine ⟨A, c, h1, fun i hi => ?_⟩
  obtain ⟨b, off, hA, h3⟩ := h2 i hi
  exact ⟨b, off, hA, by rw [h3]; simp [List.getD, hi]⟩

structure Lay where
  B : Nat
  b : Nat
  T : Nat
  R : Nat
  C : Nat
  I : Nat
  nT : Nat
  nR : Nat
  nC : Nat
  nI : Nat
  n : Nat
  G : Nat

structure Lay.Ok (y : Lay) : Prop where
  h1 : y.B ≤ y.T
  h2 : y.T < y.R
  h3 : y.R < y.C
  h4 : y.C < y.I
  h5 : y.I < y.b
  h6 : y.n ≤ y.nT
  h7 : y.n ≤ y.nR
  h8 : y.n ≤ y.nC
  h9 : y.n ≤ y.nI
  m1 : y.nT ≤ 65536
  m2 : y.nR ≤ 65536
  m3 : y.nC ≤ 65536
  m4 : y.nI ≤ 65536
  g : y.G < y.B
  np : 0 < y.n

def sl (g n : Nat) : Value := .slice (some ⟨g, 0, none⟩) n n

def FV (y : Lay) (nv : Value) (wk : Int) : Nat → Value
  | 0 => sl y.G y.n
  | 1 => sl y.T y.nT
  | 2 => sl y.R y.nR
  | 3 => sl y.C y.nC
  | 4 => nv
  | 5 => sl y.I y.nI
  | _ => .int .i64 wk

def zl (l : List Nat) : List Int := l.map fun u : Nat => (u : Int)

/-- The order search's memory. -/
structure OS (y : Lay) (wr : World) (tk : Nat → Bool) (rs cl : Nat → Int) (is : Nat → Bool) (nv : Value) (NL : List Nat) (wk : Int) : Prop where
  str : wr.rowIs y.b 43 7 (FV y nv wk)
  rT : wr.rowIs y.T 4 y.nT (fun i => .bool (tk i))
  rR : wr.rowIs y.R 3 y.nR (fun i => .int .i64 (rs i))
  rC : wr.rowIs y.C 3 y.nC (fun i => .int .i64 (cl i))
  rI : wr.rowIs y.I 4 y.nI (fun i => .bool (is i))
  own : OwnI wr y.B nv (zl NL)
  far : ∀ k, nv.ownBlock = some k → k ≠ y.b ∧ k ≠ y.T ∧ k ≠ y.R ∧ k ≠ y.C ∧ k ≠ y.I

def up {α : Type} (f : Nat → α) (v : Nat) (a : α) : Nat → α := fun j => if j = v then a else f j

variable {y : Lay} {wr : World} {tk : Nat → Bool} {rs cl : Nat → Int} {is : Nat → Bool} {nv : Value} {NL : List Nat} {wk : Int}

theorem OS.alloc (h : OS y wr tk rs cl is nv NL wk) (o : Obj) : OS y (wr.alloc o) tk rs cl is nv NL wk := ⟨h.str.alloc o, h.rT.alloc o, h.rR.alloc o, h.rC.alloc o, h.rI.alloc o, h.own.alloc o, h.far⟩
theorem OS.drewN (h : OS y wr tk rs cl is nv NL wk) (m : Nat) : OS y (wr.drewN m) tk rs cl is nv NL wk := ⟨h.str, h.rT, h.rR, h.rC, h.rI, h.own, h.far⟩

theorem OS.ne (h : OS y wr tk rs cl is nv NL wk) {k : Nat} (hk : k = y.b ∨ k = y.T ∨ k = y.R ∨ k = y.C ∨ k = y.I) : nv.ownBlock ≠ some k := by
  intro e
  obtain ⟨a, b, c, d, f⟩ := h.far k e
  rcases hk with h | h | h | h | h <;> contradiction

theorem OS.work (ok : y.Ok) (h : OS y wr tk rs cl is nv NL wk) (z : Int) : OS y (wr.setCell ⟨y.b, 6, none⟩ (.int .i64 z)) tk rs cl is nv NL z := by
  obtain ⟨h1, h2, h3, h4, h5, _, _, _, _, _, _, _, _, _, _⟩ := ok
  refine ⟨(h.str.set 6 _).congr fun j hj => ?_, h.rT.setOther (by show _ ≠ y.b; omega) _, h.rR.setOther (by show _ ≠ y.b; omega) _, h.rC.setOther (by show _ ≠ y.b; omega) _, h.rI.setOther (by show _ ≠ y.b; omega) _, h.own.setOther (h.ne (Or.inl rfl)) _, h.far⟩
  match j, hj with
  | 0, _ => rfl
  | 1, _ => rfl
  | 2, _ => rfl
  | 3, _ => rfl
  | 4, _ => rfl
  | 5, _ => rfl
  | 6, _ => rfl

theorem up_row {w : World} {b n : Nat} {t : TypeId} {α : Type} {f : Nat → α} {e : α → Value} (h : w.rowIs b t n (fun i => e (f i))) (v : Nat) (a : α) : (w.setCell ⟨b, v, none⟩ (e a)).rowIs b t n (fun i => e (up f v a i)) := by
  refine (h.set v _).congr fun j _ => ?_
  unfold up
  by_cases c : j = v
  · rw [if_pos c, if_pos c]
  · rw [if_neg c, if_neg c]

theorem OS.setT (ok : y.Ok) (h : OS y wr tk rs cl is nv NL wk) (v : Nat) : OS y (wr.setCell ⟨y.T, v, none⟩ (.bool true)) (up tk v true) rs cl is nv NL wk := by
  obtain ⟨h1, h2, h3, h4, h5, _, _, _, _, _, _, _, _, _, _⟩ := ok
  exact ⟨h.str.setOther (by show _ ≠ y.T; omega) _, up_row (e := Value.bool) h.rT v true, h.rR.setOther (by show _ ≠ y.T; omega) _, h.rC.setOther (by show _ ≠ y.T; omega) _, h.rI.setOther (by show _ ≠ y.T; omega) _, h.own.setOther (h.ne (by simp)) _, h.far⟩
theorem OS.setI (ok : y.Ok) (h : OS y wr tk rs cl is nv NL wk) (v : Nat) : OS y (wr.setCell ⟨y.I, v, none⟩ (.bool true)) tk rs cl (up is v true) nv NL wk := by
  obtain ⟨h1, h2, h3, h4, h5, _, _, _, _, _, _, _, _, _, _⟩ := ok
  exact ⟨h.str.setOther (by show _ ≠ y.I; omega) _, h.rT.setOther (by show _ ≠ y.I; omega) _, h.rR.setOther (by show _ ≠ y.I; omega) _, h.rC.setOther (by show _ ≠ y.I; omega) _, up_row (e := Value.bool) h.rI v true, h.own.setOther (h.ne (by simp)) _, h.far⟩
theorem OS.setR (ok : y.Ok) (h : OS y wr tk rs cl is nv NL wk) (v : Nat) (z : Int) : OS y (wr.setCell ⟨y.R, v, none⟩ (.int .i64 z)) tk (up rs v z) cl is nv NL wk := by
  obtain ⟨h1, h2, h3, h4, h5, _, _, _, _, _, _, _, _, _, _⟩ := ok
  exact ⟨h.str.setOther (by show _ ≠ y.R; omega) _, h.rT.setOther (by show _ ≠ y.R; omega) _, up_row (e := Value.int .i64) h.rR v z, h.rC.setOther (by show _ ≠ y.R; omega) _, h.rI.setOther (by show _ ≠ y.R; omega) _, h.own.setOther (h.ne (by simp)) _, h.far⟩
theorem OS.setC (ok : y.Ok) (h : OS y wr tk rs cl is nv NL wk) (v : Nat) (z : Int) : OS y (wr.setCell ⟨y.C, v, none⟩ (.int .i64 z)) tk rs (up cl v z) is nv NL wk := by
  obtain ⟨h1, h2, h3, h4, h5, _, _, _, _, _, _, _, _, _, _⟩ := ok
  exact ⟨h.str.setOther (by show _ ≠ y.C; omega) _, h.rT.setOther (by show _ ≠ y.C; omega) _, h.rR.setOther (by show _ ≠ y.C; omega) _, up_row (e := Value.int .i64) h.rC v z, h.rI.setOther (by show _ ≠ y.C; omega) _, h.own.setOther (h.ne (by simp)) _, h.far⟩

/-- Another value in the field 'near'. -/
theorem OS.setN (ok : y.Ok) (h : OS y wr tk rs cl is nv NL wk) (v1 : Value) (NL1 : List Nat) (ho : OwnI wr y.B v1 (zl NL1)) (hf : ∀ k, v1.ownBlock = some k → k ≠ y.b ∧ k ≠ y.T ∧ k ≠ y.R ∧ k ≠ y.C ∧ k ≠ y.I) :
    OS y (wr.setCell ⟨y.b, 4, none⟩ v1) tk rs cl is v1 NL1 wk := by
  obtain ⟨h1, h2, h3, h4, h5, _, _, _, _, _, _, _, _, _, _⟩ := ok
  refine ⟨(h.str.set 4 _).congr fun j hj => ?_, h.rT.setOther (by show _ ≠ y.b; omega) _, h.rR.setOther (by show _ ≠ y.b; omega) _, h.rC.setOther (by show _ ≠ y.b; omega) _, h.rI.setOther (by show _ ≠ y.b; omega) _, ho.setOther (fun e => (hf _ e).1 rfl) _, hf⟩
  match j, hj with
  | 0, _ => rfl
  | 1, _ => rfl
  | 2, _ => rfl
  | 3, _ => rfl
  | 4, _ => rfl
  | 5, _ => rfl
  | 6, _ => rfl

/-- Blocks that grow elsewhere. -/
theorem OS.grown (h : OS y wr tk rs cl is nv NL wk) {w1 : World} {row : Option Nat} (hg : wr.grownBy w1 row) (hr : ∀ k, row = some k → k ≠ y.b ∧ k ≠ y.T ∧ k ≠ y.R ∧ k ≠ y.C ∧ k ≠ y.I) (v1 : Value) (NL1 : List Nat) (ho : OwnI w1 y.B v1 (zl NL1))
    (hf : ∀ k, v1.ownBlock = some k → k ≠ y.b ∧ k ≠ y.T ∧ k ≠ y.R ∧ k ≠ y.C ∧ k ≠ y.I) (ok : y.Ok) : OS y (w1.setCell ⟨y.b, 4, none⟩ v1) tk rs cl is v1 NL1 wk := by
  have hb : ∀ {c n : Nat} {t : TypeId} {V : Nat → Value}, wr.rowIs c t n V → (c = y.b ∨ c = y.T ∨ c = y.R ∨ c = y.C ∨ c = y.I) → w1.rowIs c t n V := by
    intro c n t V hc hcc
    refine hc.of_block (hg.block c hc.lt (fun e => ?_))
    obtain ⟨a1, a2, a3, a4, a5⟩ := hr c e.symm
    rcases hcc with h | h | h | h | h <;> contradiction
  obtain ⟨h1, h2, h3, h4, h5, _, _, _, _, _, _, _, _, _, _⟩ := ok
  refine ⟨((hb h.str (by simp)).set 4 _).congr fun j hj => ?_, (hb h.rT (by simp)).setOther (by show _ ≠ y.b; omega) _, (hb h.rR (by simp)).setOther (by show _ ≠ y.b; omega) _, (hb h.rC (by simp)).setOther (by show _ ≠ y.b; omega) _, (hb h.rI (by simp)).setOther (by show _ ≠ y.b; omega) _, ho.setOther (fun e => (hf _ e).1 rfl) _, hf⟩
  match j, hj with
  | 0, _ => rfl
  | 1, _ => rfl
  | 2, _ => rfl
  | 3, _ => rfl
  | 4, _ => rfl
  | 5, _ => rfl
  | 6, _ => rfl

/-- The five blocks. -/
def Five (y : Lay) (k : Nat) : Prop := k = y.b ∨ k = y.T ∨ k = y.R ∨ k = y.C ∨ k = y.I
end Go.Proofs.Qxb6605238a
