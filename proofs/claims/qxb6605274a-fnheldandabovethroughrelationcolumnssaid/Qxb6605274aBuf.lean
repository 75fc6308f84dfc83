import Derived.Test.Qxb6605274aTmpl
namespace Go.Proofs.Qxb6605274a
open Go.RowKit
set_option linter.unusedVariables false
set_option linter.unusedSimpArgs false

theorem info5 : (Try.prog.info? 5).map (fun i => (i.zero, i.size, i.bytes)) = some (some (.int .u8 0), 1, 1) := by kernel_rfl

def bv (b : UInt8) : Value := .int .u8 (b.toNat : Int)
/-- The slice value v, in memory of the call's own from 'base' on, holds the bytes l. -/
def OwnB (w : World) (base : Nat) (v : Value) (l : List UInt8) : Prop := w.ownsRow base 5 1 v l.length (l.map bv)

theorem OwnB.alloc {w : World} {base : Nat} {v : Value} {l : List UInt8} (h : OwnB w base v l) (o : Obj) : OwnB (w.alloc o) base v l := World.ownsRow.alloc h o

theorem OwnB.cellAt {w : World} {base g cap n : Nat} {l : List UInt8} (h : OwnB w base (.slice (some ⟨g, 0, none⟩) n cap) l) {j : Nat} (hj : j < l.length) : w.cell? ⟨g, j, none⟩ = some (bv l[j]) := by
  rcases h.2 with ⟨h1, _⟩ | ⟨g', cap', cur, h1, _, hg, _, _, _, htake⟩
  · cases h1
  · simp only [Value.slice.injEq, Option.some.injEq, Addr.mk.injEq, and_true, true_and] at h1
    obtain ⟨rfl, rfl, rfl⟩ := h1
    have h2 : (l.map bv)[j]? = some (bv l[j]) := by simp [hj]
    rw [← htake, List.getElem?_take, if_pos (by omega)] at h2
    simp only [World.cell?, hg]
    simpa using h2

/-- 'string(b)'. -/
theorem OwnB.conv {w : World} {base : Nat} {v : Value} {l : List UInt8} (h : OwnB w base v l) : (convert 33 9 v).run Try.prog w = .ok (.string (B l)) w := by
  have h0 := h
  rcases h.2 with ⟨h1, h2⟩ | ⟨g, cap, cur, h1, _, _, _⟩
  · have : l = [] := List.eq_nil_of_length_eq_zero h2
    subst this
    subst h1
    exact run_convert_bytes_nil w 33 5 Try.underlying33 Try.underlying5 0 0 9 Try.underlying9
  · subst h1
    exact run_convert_bytes_back w 33 9 5 ⟨g, 0, none⟩ cap l Try.underlying33 Try.underlying5 Try.underlying9 (fun j hj => by
      have e : (⟨g, 0, none⟩ : Addr).add j = ⟨g, j, none⟩ := by unfold Addr.add; split <;> simp_all
      rw [e, h0.cellAt hj]
      rfl)

theorem wpList_appB {ops : Array Oper} {rest : List Oper} {o : Oper} {a : Act} {Q : Exit → Act → World → Prop} (w : World) (s x : Operand) (c : UInt8) (out : List UInt8) (base : Nat)
    (hn : out.length ≤ 1000000000000) (v : Value) (ad : Addr)
    (hgd : o.guard = none) (ho : o.op = .call { callee := .builtin .append, args := #[s, x], argTypes := #[33, 33] })
    (hs : a.eval s = v) (hx : a.eval x = .slice (some ad) 1 1)
    (hown : OwnB w base v out) (h0 : w.cell? ad = some (bv c)) (hbase : base ≤ w.heap.size)
    (h : ∀ v' w', OwnB w' base v' (out ++ [c]) → w.grownBy w' v.ownBlock → wpList Try.prog ops Q rest (a.put o.dst v') w') :
    wpList Try.prog ops Q (o :: rest) a w := by
  obtain ⟨i, hi, hzz⟩ := Option.map_eq_some_iff.1 info5
  simp only [Prod.mk.injEq] at hzz
  obtain ⟨hz, hsz, hb⟩ := hzz
  refine wpList_append_own w hgd s x 33 ho base 5 i _ 1 1 Try.underlying33 hi hz hsz hb rfl (by decide) v out.length _ hs hown ad 1 1 [bv c] hx rfl ?_ ?_ ?_ ?_ hbase ?_
  · intro j u hj
    match j, hj with
    | 0, hj => simp at hj; subst hj; simpa [Addr.add] using h0
  · intro u hu
    simp at hu
    subst hu
    rfl
  · unfold maxLen; omega
  · omega
  · intro v' w' h1 h2 h3
    refine h v' w' ?_ h2
    unfold OwnB
    rw [List.length_append, List.map_append]
    exact h1

theorem wpList_appS {ops : Array Oper} {rest : List Oper} {o : Oper} {a : Act} {Q : Exit → Act → World → Prop} (w : World) (sl x : Operand) (s : ByteArray) (out : List UInt8) (base : Nat)
    (hn : out.length + s.size ≤ 1000000000000) (v : Value)
    (hgd : o.guard = none) (ho : o.op = .call { callee := .builtin .append, args := #[sl, x], argTypes := #[33, 9] })
    (hs : a.eval sl = v) (hx : a.eval x = .string s)
    (hown : OwnB w base v out) (hbase : base ≤ w.heap.size)
    (h : ∀ v' w', OwnB w' base v' (out ++ s.data.toList) → w.grownBy w' v.ownBlock → wpList Try.prog ops Q rest (a.put o.dst v') w') :
    wpList Try.prog ops Q (o :: rest) a w := by
  obtain ⟨i, hi, hzz⟩ := Option.map_eq_some_iff.1 info5
  simp only [Prod.mk.injEq] at hzz
  obtain ⟨hz, hsz, hb⟩ := hzz
  refine Lib.wpList_append_own_string w hgd sl x 33 9 ho base 5 i Try.underlying33 Try.underlying9 hi hz hsz hb v out.length _ hs hown s hx (by unfold maxLen; omega) (by omega) hbase ?_
  intro v' w' h1 h2 h3
  refine h v' w' ?_ h2
  unfold OwnB
  rw [List.length_append, List.map_append, ← sz]
  exact h1

theorem OwnB.below {w w1 : World} {base : Nat} {v : Value} {out : List UInt8} (h : OwnB w base v out) (hg : w.grownBy w1 v.ownBlock) {w0 : World} (hb : Below base w0 w) (hB2 : base ≤ w.heap.size) : Below base w0 w1 :=
  hb.grown hg hB2 (fun k hk => (World.ownsRow.lt h k hk).1)

/-- The relation of both loops. -/
structure RB (w wr : World) (v : Value) (out : List UInt8) : Prop where
  own : OwnB wr w.heap.size v out
  below : Below w.heap.size w wr
theorem RB.alloc {w wr : World} {v : Value} {out : List UInt8} (h : RB w wr v out) (o : Obj) : RB w (wr.alloc o) v out := ⟨h.own.alloc o, h.below.alloc h.below.size _⟩
theorem RB.app {w wr w1 : World} {v v1 : Value} {out out1 : List UInt8} (h : RB w wr v out) (hg : wr.grownBy w1 v.ownBlock) (ho : OwnB w1 w.heap.size v1 out1) : RB w w1 v1 out1 := ⟨ho, h.own.below hg h.below h.below.size⟩

/-- The marker bytes. -/
def isM (c : UInt8) : Bool := decide (1 ≤ c.toNat) && decide (c.toNat ≤ 3)
def mk (l : List UInt8) : List UInt8 := l.filter isM

theorem take_snoc (s : ByteArray) (k : Nat) (h : k < s.size) : s.data.toList.take (k + 1) = s.data.toList.take k ++ [s[k]] := by
  rw [List.take_succ_eq_append_getElem (by simpa using h)]; rfl
theorem take_all (s : ByteArray) : s.data.toList.take s.size = s.data.toList := List.take_of_length_le (by rw [← sz]; exact Nat.le_refl _)

theorem rb_start (w : World) : RB w (w.alloc (.cells #[] 5)) (.slice (some ⟨w.heap.size, 0, none⟩) 0 0) [] :=
  ⟨World.ownsRow_made w #[] 0 (Nat.le_refl _) (Nat.zero_le _) rfl, (Below.refl _ _).alloc (Nat.le_refl _) _⟩

theorem mk_snoc (l : List UInt8) (c : UInt8) : mk (l ++ [c]) = mk l ++ if isM c = true then [c] else [] := by
  unfold mk
  rw [List.filter_append]
  by_cases h : isM c = true
  · simp [h]
  · simp [h]
theorem mk_len (l : List UInt8) : (mk l).length ≤ l.length := List.length_filter_le _ _

set_option maxRecDepth 100000 in
set_option maxHeartbeats 800000 in
theorem markers_any (s : ByteArray) (w : World) (hs : s.size ≤ 100000000) : Calls Try.prog 12 #[.string s] w fun e w' => e = .returned (.string (B (mk s.data.toList))) ∧ Below w.heap.size w w' := by
  go_enter Try.func12, Try.ntmps12
  go_wp2
  go_loopg [3, 4] s.size (fun g v i wr => ∃ k : Nat, k ≤ s.size ∧ g = s.size - k ∧ i = .int .i64 k ∧ RB w wr v (mk (s.data.toList.take k)))
  case atStart => exact ⟨0, Nat.zero_le _, rfl, rfl, by simpa [mk] using rb_start w⟩
  case round =>
    obtain ⟨k, hk, rfl, rfl, hR⟩ := hrel
    by_cases hlt : k < s.size
    · have HT : Hid (mk (s.data.toList.take (k + 1)) = mk (s.data.toList.take k) ++ if isM s[k] = true then [s[k]] else []) := by
        show _ = _
        rw [take_snoc s k hlt, mk_snoc]
      have hl : (mk (s.data.toList.take k)).length ≤ k := by
        have := mk_len (s.data.toList.take k)
        have h2 : (s.data.toList.take k).length ≤ k := List.length_take_le _ _
        omega
      have hsz := hR.below.size
      by_cases h1 : (1 : Int) ≤ (s[k].toNat : Int)
      · by_cases h2 : (s[k].toNat : Int) ≤ 3
        · have hm : isM s[k] = true := by unfold isM; simp; omega
          have HT' : Hid (mk (s.data.toList.take (k + 1)) = mk (s.data.toList.take k) ++ [s[k]]) := by
            have := HT.out
            rw [if_pos hm] at this
            exact this
          clear HT hm
          have hR1 := fun o => hR.alloc o
          go_wp2_with (at_builtin; refine wpList_appB _ (.tmp 22) (.tmp 26) s[k] _ w.heap.size (by omega) _ _ rfl rfl rfl rfl (hR1 _).own ?_ ?_ ?_)
          · rw [World.cell?_alloc_at _ _ _ _ (by simp)]; rfl
          · simp; omega
          · intro v1 w1 ho1 hg1
            have hR2 := (hR1 _).app hg1 ho1
            clear ho1 hg1 hR1
            go_wp2
            go_roundg (s.size - (k + 1))
            case measure => omega
            case rel => exact ⟨k + 1, by omega, rfl, by go_num, by rw [HT'.out]; exact hR2⟩
        · have hm : ¬ isM s[k] = true := by unfold isM; simp; omega
          have HT' : Hid (mk (s.data.toList.take (k + 1)) = mk (s.data.toList.take k)) := by
            have := HT.out
            rw [if_neg hm, List.append_nil] at this
            exact this
          clear HT hm
          go_wp2
          go_roundg (s.size - (k + 1))
          case measure => omega
          case rel => exact ⟨k + 1, by omega, rfl, by go_num, by rw [HT'.out]; exact hR⟩
      · have hm : ¬ isM s[k] = true := by unfold isM; simp; omega
        have HT' : Hid (mk (s.data.toList.take (k + 1)) = mk (s.data.toList.take k)) := by
          have := HT.out
          rw [if_neg hm, List.append_nil] at this
          exact this
        have hdd : decide ((1 : Int) ≤ (s[k].toNat : Int)) = false := by simpa using h1
        clear HT hm
        go_wp2
        go_roundg (s.size - (k + 1))
        case measure => omega
        case rel => exact ⟨k + 1, by omega, rfl, by go_num, by rw [HT'.out]; exact hR⟩
    · have e : k = s.size := by omega
      subst e
      rw [take_all] at hR
      have hcv := hR.own.conv
      have hb := hR.below
      clear hR
      go_wp2
      go_ret
      exact ⟨rfl, hb⟩

/-- zzFill's answer, a byte at a time. -/
def f1 (m1 m2 m3 : List UInt8) (c : UInt8) : List UInt8 := if c.toNat = 1 then m1 else if c.toNat = 2 then m2 else if c.toNat = 3 then m3 else [c]
def fill (m1 m2 m3 l : List UInt8) : List UInt8 := l.flatMap (f1 m1 m2 m3)
theorem fill_snoc (m1 m2 m3 l : List UInt8) (c : UInt8) : fill m1 m2 m3 (l ++ [c]) = fill m1 m2 m3 l ++ f1 m1 m2 m3 c := by simp [fill]
theorem fill_len (m1 m2 m3 : List UInt8) (N : Nat) (h1 : m1.length ≤ N) (h2 : m2.length ≤ N) (h3 : m3.length ≤ N) (hN : 1 ≤ N) : ∀ l, (fill m1 m2 m3 l).length ≤ l.length * N
  | [] => by simp [fill]
  | c :: l => by
    have ih := fill_len m1 m2 m3 N h1 h2 h3 hN l
    have e : fill m1 m2 m3 (c :: l) = f1 m1 m2 m3 c ++ fill m1 m2 m3 l := rfl
    have hc : (f1 m1 m2 m3 c).length ≤ N := by
      unfold f1
      split
      · exact h1
      · split
        · exact h2
        · split
          · exact h3
          · simpa using hN
    rw [e, List.length_append, List.length_cons, Nat.add_mul, Nat.one_mul]
    omega

set_option maxRecDepth 100000 in
set_option maxHeartbeats 1600000 in
theorem fill_any (s m1 m2 m3 : ByteArray) (w : World) (hs : s.size ≤ 1000) (h1 : m1.size ≤ 1048576) (h2 : m2.size ≤ 1048576) (h3 : m3.size ≤ 1048576) :
    Calls Try.prog 14 #[.string s, .string m1, .string m2, .string m3] w fun e w' => e = .returned (.string (B (fill m1.data.toList m2.data.toList m3.data.toList s.data.toList))) ∧ Below w.heap.size w w' := by
  go_enter Try.func14, Try.ntmps14
  go_wp2
  go_loopg [9, 10] s.size (fun g v i wr => ∃ k : Nat, k ≤ s.size ∧ g = s.size - k ∧ i = .int .i64 k ∧ RB w wr v (fill m1.data.toList m2.data.toList m3.data.toList (s.data.toList.take k)))
  case atStart => exact ⟨0, Nat.zero_le _, rfl, rfl, by simpa [fill] using rb_start w⟩
  case round =>
    obtain ⟨k, hk, rfl, rfl, hR⟩ := hrel
    by_cases hlt : k < s.size
    · have HT : Hid (fill m1.data.toList m2.data.toList m3.data.toList (s.data.toList.take (k + 1)) = fill m1.data.toList m2.data.toList m3.data.toList (s.data.toList.take k) ++ f1 m1.data.toList m2.data.toList m3.data.toList s[k]) := by
        show _ = _
        rw [take_snoc s k hlt, fill_snoc]
      have hl : (fill m1.data.toList m2.data.toList m3.data.toList (s.data.toList.take k)).length ≤ 1048576000 := by
        have := fill_len m1.data.toList m2.data.toList m3.data.toList 1048576 (by rw [← sz]; exact h1) (by rw [← sz]; exact h2) (by rw [← sz]; exact h3) (by omega) (s.data.toList.take k)
        have h2 : (s.data.toList.take k).length ≤ k := List.length_take_le _ _
        omega
      have hsz := hR.below.size
      by_cases c1 : (s[k].toNat : Int) = 1
      · have e1 : f1 m1.data.toList m2.data.toList m3.data.toList s[k] = m1.data.toList := by unfold f1; rw [if_pos (by omega)]
        rw [e1] at HT
        have d1 : ((s[k].toNat : Int) == 1) = true := by simpa using c1
        clear c1 e1
        go_wp2_with (at_builtin; refine wpList_appS _ (.tmp 24) (.tmp 25) m1 _ w.heap.size (by omega) _ rfl rfl rfl rfl hR.own ?_ ?_)
        · omega
        · intro v1 w1 ho1 hg1
          have hR2 := hR.app hg1 ho1
          clear ho1 hg1
          go_wp2
          go_roundg (s.size - (k + 1))
          case measure => omega
          case rel => exact ⟨k + 1, by omega, rfl, by go_num, by rw [HT.out]; exact hR2⟩
      · have d1 : ((s[k].toNat : Int) == 1) = false := by simpa using c1
        by_cases c2 : (s[k].toNat : Int) = 2
        · have e1 : f1 m1.data.toList m2.data.toList m3.data.toList s[k] = m2.data.toList := by unfold f1; rw [if_neg (by omega), if_pos (by omega)]
          rw [e1] at HT
          have d2 : ((s[k].toNat : Int) == 2) = true := by simpa using c2
          clear c1 c2 e1
          go_wp2_with (at_builtin; refine wpList_appS _ (.tmp 29) (.tmp 30) m2 _ w.heap.size (by omega) _ rfl rfl rfl rfl hR.own ?_ ?_)
          · omega
          · intro v1 w1 ho1 hg1
            have hR2 := hR.app hg1 ho1
            clear ho1 hg1
            go_wp2
            go_roundg (s.size - (k + 1))
            case measure => omega
            case rel => exact ⟨k + 1, by omega, rfl, by go_num, by rw [HT.out]; exact hR2⟩
        · have d2 : ((s[k].toNat : Int) == 2) = false := by simpa using c2
          by_cases c3 : (s[k].toNat : Int) = 3
          · have e1 : f1 m1.data.toList m2.data.toList m3.data.toList s[k] = m3.data.toList := by unfold f1; rw [if_neg (by omega), if_neg (by omega), if_pos (by omega)]
            rw [e1] at HT
            have d3 : ((s[k].toNat : Int) == 3) = true := by simpa using c3
            clear c1 c2 c3 e1
            go_wp2_with (at_builtin; refine wpList_appS _ (.tmp 34) (.tmp 35) m3 _ w.heap.size (by omega) _ rfl rfl rfl rfl hR.own ?_ ?_)
            · omega
            · intro v1 w1 ho1 hg1
              have hR2 := hR.app hg1 ho1
              clear ho1 hg1
              go_wp2
              go_roundg (s.size - (k + 1))
              case measure => omega
              case rel => exact ⟨k + 1, by omega, rfl, by go_num, by rw [HT.out]; exact hR2⟩
          · have d3 : ((s[k].toNat : Int) == 3) = false := by simpa using c3
            have e1 : f1 m1.data.toList m2.data.toList m3.data.toList s[k] = [s[k]] := by unfold f1; rw [if_neg (by omega), if_neg (by omega), if_neg (by omega)]
            rw [e1] at HT
            clear c1 c2 c3 e1
            have hR1 := fun o => hR.alloc o
            go_wp2_with (at_builtin; refine wpList_appB _ (.tmp 37) (.tmp 39) s[k] _ w.heap.size (by omega) _ _ rfl rfl rfl rfl (hR1 _).own ?_ ?_ ?_)
            · rw [World.cell?_alloc_at _ _ _ _ (by simp)]; rfl
            · simp; omega
            · intro v1 w1 ho1 hg1
              have hR2 := (hR1 _).app hg1 ho1
              clear ho1 hg1 hR1
              go_wp2
              go_roundg (s.size - (k + 1))
              case measure => omega
              case rel => exact ⟨k + 1, by omega, rfl, by go_num, by rw [HT.out]; exact hR2⟩
    · have e : k = s.size := by omega
      subst e
      rw [take_all] at hR
      have hcv := hR.own.conv
      have hb := hR.below
      clear hR
      go_wp2
      go_ret
      exact ⟨rfl, hb⟩
end Go.Proofs.Qxb6605274a
