import Derived.Test.Qxb6605302aLaw4
namespace Go.Proofs.Qxb6605302a
open Go.RowKit
set_option linter.unusedVariables false
set_option linter.unusedSimpArgs false

def bv (b : UInt8) : Value := .int .u8 (b.toNat : Int)
/-- The slice value v, in memory of the call's own from 'base' on, holds the bytes l. -/
def OwnB (w : World) (base : Nat) (v : Value) (l : List UInt8) : Prop := w.ownsRow base 5 1 v l.length (l.map bv)

theorem OwnB.alloc {w : World} {base : Nat} {v : Value} {l : List UInt8} (h : OwnB w base v l) (o : Obj) : OwnB (w.alloc o) base v l := World.ownsRow.alloc h o

theorem OwnB.cellAt {w : World} {base g cap n : Nat} {l : List UInt8} (h : OwnB w base (.slice (some ⟨g, 0, none⟩) n cap) l) {j : Nat} (hj : j < l.length) : w.cell? ⟨g, j, none⟩ = some (bv l[j]) := by
  rcases h.2 with ⟨h1, _⟩ | ⟨g', cap', cur, h1, _, hg, _, _, _, htake⟩
  · cases h1
  · simp only [Value.slice.injEq, Option.some.injEq, Addr.mk.injEq, and_true, true_and] at h1
    obtain ⟨rfl, rfl, rfl⟩ := h1
    have h2 : (l.map bv)[j]? = some (bv l[j]) := by simp [hj]
    rw [← htake, List.getElem?_take, if_pos (by omega)] at h2
    simp only [World.cell?, hg]
    simpa using h2

theorem wpList_appB {ops : Array Oper} {rest : List Oper} {o : Oper} {a : Act} {Q : Exit → Act → World → Prop} (w : World) (s x : Operand) (c : UInt8) (out : List UInt8) (base : Nat)
    (hn : out.length ≤ 1000000000000) (v : Value) (ad : Addr)
    (hgd : o.guard = none) (ho : o.op = .call { callee := .builtin .append, args := #[s, x], argTypes := #[24, 24] })
    (hs : a.eval s = v) (hx : a.eval x = .slice (some ad) 1 1)
    (hown : OwnB w base v out) (h0 : w.cell? ad = some (bv c)) (hbase : base ≤ w.heap.size)
    (h : ∀ v' w', OwnB w' base v' (out ++ [c]) → w.grownBy w' v.ownBlock → wpList Try.prog ops Q rest (a.put o.dst v') w') :
    wpList Try.prog ops Q (o :: rest) a w := by
  obtain ⟨i, hi, hzz⟩ := Option.map_eq_some_iff.1 info5
  simp only [Prod.mk.injEq] at hzz
  obtain ⟨hz, hsz, hb⟩ := hzz
  refine wpList_append_own w hgd s x 24 ho base 5 i _ 1 1 Try.underlying24 hi hz hsz hb rfl (by decide) v out.length _ hs hown ad 1 1 [bv c] hx rfl ?_ ?_ ?_ ?_ hbase ?_
  · intro j u hj
    match j, hj with
    | 0, hj => simp at hj; subst hj; simpa [Addr.add] using h0
  · intro u hu
    simp at hu
    subst hu
    rfl
  · unfold maxLen; omega
  · omega
  · intro v' w' h1 h2 h3
    refine h v' w' ?_ h2
    unfold OwnB
    rw [List.length_append, List.map_append]
    exact h1

theorem OwnB.below {w w1 : World} {base : Nat} {v : Value} {out : List UInt8} (h : OwnB w base v out) (hg : w.grownBy w1 v.ownBlock) {w0 : World} (hb : Below base w0 w) (hB2 : base ≤ w.heap.size) : Below base w0 w1 :=
  hb.grown hg hB2 (fun k hk => (World.ownsRow.lt h k hk).1)

structure RB (w wr : World) (v : Value) (out : List UInt8) : Prop where
  own : OwnB wr w.heap.size v out
  below : Below w.heap.size w wr
theorem RB.alloc {w wr : World} {v : Value} {out : List UInt8} (h : RB w wr v out) (o : Obj) : RB w (wr.alloc o) v out := ⟨h.own.alloc o, h.below.alloc h.below.size _⟩
theorem RB.app {w wr w1 : World} {v v1 : Value} {out out1 : List UInt8} (h : RB w wr v out) (hg : wr.grownBy w1 v.ownBlock) (ho : OwnB w1 w.heap.size v1 out1) : RB w w1 v1 out1 := ⟨ho, h.own.below hg h.below h.below.size⟩

theorem run_make_empty (n : Nat) (hn : n ≤ 1048576) (w : World) :
    (Instr.makeSlice 24 (.int .i64 0) (.int .i64 (n : Int))).run Try.prog w = .ok (.slice (some ⟨w.heap.size, 0, none⟩) 0 n) (w.alloc (.cells (madeCells #[.int .u8 0] n) 5)) := by
  obtain ⟨i, hi, hzz⟩ := Option.map_eq_some_iff.1 info5
  simp only [Prod.mk.injEq] at hzz
  obtain ⟨hz, hs, hb⟩ := hzz
  have hr := run_make (P := Try.prog) w 24 5 i _ Try.underlying24 hi hz .i64 .i64 0 n (by omega) (by omega) (by rw [hb]; omega) (by omega)
  simp only [Int.toNat_natCast, Int.toNat_zero, hs, Nat.mul_one] at hr
  exact hr

theorem rb_start (w wr : World) (n : Nat) (hn : n ≤ 1048576) (hb : Below w.heap.size w wr) : RB w (wr.alloc (.cells (madeCells #[.int .u8 0] n) 5)) (.slice (some ⟨wr.heap.size, 0, none⟩) 0 n) [] :=
  ⟨World.ownsRow_made wr _ n hb.size (by unfold maxLen; omega) (by rw [size_madeCells, Nat.mul_one]), hb.alloc hb.size _⟩

set_option maxHeartbeats 1000000 in
theorem hex_lo (n : Nat) (h1 : 48 ≤ n) (h2 : n ≤ 57) (w : World) : Calls Try.prog 8 #[.int .u8 (n : Int)] w fun e w' => e = .returned (.int .i64 ((n - 48 : Nat) : Int)) ∧ w' = w := by
  have d1 : decide ((48 : Int) ≤ (n : Int)) = true := by simp; omega
  have d2 : decide ((n : Int) ≤ 57) = true := by simp; omega
  go_enter Try.func8, Try.ntmps8
  go_wp2
  go_ret
  refine ⟨?_, rfl⟩
  go_num
set_option maxHeartbeats 1000000 in
theorem hex_hi (n : Nat) (h1 : 65 ≤ n) (h2 : n ≤ 70) (w : World) : Calls Try.prog 8 #[.int .u8 (n : Int)] w fun e w' => e = .returned (.int .i64 ((n - 55 : Nat) : Int)) ∧ w' = w := by
  have d0 : decide ((48 : Int) ≤ (n : Int)) = true := by simp; omega
  have d1 : decide ((n : Int) ≤ 57) = false := by simp; omega
  have d2 : decide ((65 : Int) ≤ (n : Int)) = true := by simp; omega
  have d3 : decide ((n : Int) ≤ 70) = true := by simp; omega
  go_enter Try.func8, Try.ntmps8
  go_wp2
  go_ret
  refine ⟨?_, rfl⟩
  go_num

theorem hex_any (m n : Nat) (hm : m < 16) (hn : n = hexN m) (w : World) : Calls Try.prog 8 #[.int .u8 (n : Int)] w fun e w' => e = .returned (.int .i64 (m : Int)) ∧ w' = w := by
  subst hn
  unfold hexN
  split
  · refine (hex_lo (48 + m) (by omega) (by omega) w).mono ?_
    rintro e w' ⟨rfl, hw⟩
    exact ⟨by congr 2; omega, hw⟩
  · refine (hex_hi (55 + m) (by omega) (by omega) w).mono ?_
    rintro e w' ⟨rfl, hw⟩
    exact ⟨by congr 2; omega, hw⟩

set_option maxHeartbeats 1000000 in
theorem bytes6_any (a : ByteArray) (w : World) (ha : a.size ≤ maxLen) :
    Calls Try.prog 6 #[.string a] w fun e w' => (∃ t : Bool, e = .returned (.bool t) ∧ (t = true → a.size ≤ 1048576)) ∧ w' = w := by
  unfold maxLen at ha
  go_enter Try.func6, Try.ntmps6
  by_cases h1 : a.size ≤ 1048576
  · have d1 : decide ((1048576 : Int) < (a.size : Int)) = false := by simp; omega
    go_wp2
    go_ret
    exact ⟨⟨true, rfl, fun _ => h1⟩, rfl⟩
  · have d1 : decide ((1048576 : Int) < (a.size : Int)) = true := by simp; omega
    go_wp2
    go_ret
    exact ⟨⟨false, rfl, by simp⟩, rfl⟩
end Go.Proofs.Qxb6605302a
