import Derived.Test.Qxb6604105aOwn
import Derived.Test.Qxb6604105aEq
namespace Go.Proofs.Qxb6604105a
open Go.RowKit Go.Deep
set_option linter.unusedVariables false
set_option linter.unusedSimpArgs false

theorem remL_take (f g : Int) (xs : List (Int × Int)) (k : Nat) (hk : k < xs.length) : remL f g (xs.take (k + 1)) = remL f g (xs.take k) ++ rem1 f g (fa xs k, sa xs k) := by
  rw [List.take_succ_eq_append_getElem hk]
  unfold remL
  rw [List.flatMap_append]
  congr 1
  rw [fa_get hk, sa_get hk]
  simp
theorem rem1_len (f g : Int) (p : Int × Int) : (rem1 f g p).length ≤ 2 := by
  unfold rem1
  split
  · simp
  · split
    · split <;> split <;> simp
    · simp
theorem remL_len (f g : Int) (xs : List (Int × Int)) : (remL f g xs).length ≤ 2 * xs.length := by
  induction xs with
  | nil => simp [remL]
  | cons x xs ih =>
    have e : remL f g (x :: xs) = rem1 f g x ++ remL f g xs := rfl
    have := rem1_len f g x
    rw [e, List.length_append, List.length_cons]
    omega

theorem r1 {f g a b : Int} (h1 : f ≤ a) (h2 : b ≤ g) : rem1 f g (a, b) = [] := by unfold rem1; rw [if_pos ⟨h1, h2⟩]
theorem r2 {f g a b : Int} (hfg : f ≤ g) (h1 : a < f) (h2 : f < b) (h3 : g < b) : rem1 f g (a, b) = [(a, f), (g, b)] := by
  unfold rem1; dsimp only; rw [if_neg (by omega), if_pos (by omega), if_pos h1, if_pos h3]; rfl
theorem r3 {f g a b : Int} (hfg : f ≤ g) (h1 : a < f) (h2 : f < b) (h3 : b ≤ g) : rem1 f g (a, b) = [(a, f)] := by
  unfold rem1; dsimp only; rw [if_neg (by omega), if_pos (by omega), if_pos h1, if_neg (by omega)]; rfl
theorem r4 {f g a b : Int} (hfg : f ≤ g) (h1 : f ≤ a) (h2 : a < g) (h3 : g < b) : rem1 f g (a, b) = [(g, b)] := by
  unfold rem1; dsimp only; rw [if_neg (by omega), if_pos (by omega), if_neg (by omega), if_pos h3]; rfl
theorem r5 {f g a b : Int} (hfg : f ≤ g) (h1 : f ≤ a) (h2 : g ≤ a) (h3 : g < b) : rem1 f g (a, b) = [(a, b)] := by
  unfold rem1; dsimp only; rw [if_neg (by omega), if_neg (by omega)]
theorem r6 {f g a b : Int} (hfg : f ≤ g) (h1 : a < f) (h2 : b ≤ f) : rem1 f g (a, b) = [(a, b)] := by
  unfold rem1; dsimp only; rw [if_neg (by omega), if_neg (by omega)]

/-- The relation of remove's loop: 'v' holds 'out'; the fragment lies in the first new block. -/
structure Rel (w wr : World) (msg : Nat) (f g : Int) (v : Value) (out : List (Int × Int)) : Prop where
  own : Own wr (w.heap.size + 1) 41 v out
  below : Below w.heap.size w wr
  size : w.heap.size + 1 ≤ wr.heap.size
  c0 : wr.cell? ⟨w.heap.size, 0, none⟩ = some (.int .i64 msg)
  c1 : wr.cell? ⟨w.heap.size, 1, none⟩ = some (.int .i64 f)
  c2 : wr.cell? ⟨w.heap.size, 2, none⟩ = some (.int .i64 g)

theorem Rel.alloc {w wr : World} {msg : Nat} {f g : Int} {v : Value} {out : List (Int × Int)} (h : Rel w wr msg f g v out) (o : Obj) : Rel w (wr.alloc o) msg f g v out := by
  have hs := h.size
  refine ⟨h.own.alloc o, h.below.alloc (by omega) _, by simp; omega, ?_, ?_, ?_⟩
  · rw [World.cell?_alloc_lt _ _ _ (by show w.heap.size < _; omega)]; exact h.c0
  · rw [World.cell?_alloc_lt _ _ _ (by show w.heap.size < _; omega)]; exact h.c1
  · rw [World.cell?_alloc_lt _ _ _ (by show w.heap.size < _; omega)]; exact h.c2

theorem Rel.app {w wr w1 : World} {msg : Nat} {f g : Int} {v v1 : Value} {out out1 : List (Int × Int)} (h : Rel w wr msg f g v out) (hg : wr.grownBy w1 v.ownBlock) (ho : Own w1 (w.heap.size + 1) 41 v1 out1) : Rel w w1 msg f g v1 out1 := by
  have hs := h.size
  have hs2 := hg.size
  exact ⟨ho, h.own.below hg h.below (by omega) (by omega), by omega, h.own.cellKept hg h.c0 (by show w.heap.size < _; omega), h.own.cellKept hg h.c1 (by show w.heap.size < _; omega), h.own.cellKept hg h.c2 (by show w.heap.size < _; omega)⟩

/-- A cell of the newest block but one is kept by an append. -/
theorem kept_new {wr w1 : World} {B : Nat} {v : Value} {out : List (Int × Int)} (h : Own wr B 41 v out) (o1 o2 : Obj) (hg : ((wr.alloc o1).alloc o2).grownBy w1 v.ownBlock) {j : Nat} {u : Value} (hc : (wr.alloc o1).cell? ⟨wr.heap.size, j, none⟩ = some u) :
    w1.cell? ⟨wr.heap.size, j, none⟩ = some u := by
  refine hg.cell (by rw [World.cell?_alloc_lt _ _ _ (by show wr.heap.size < _; simp)]; exact hc) (fun hk => ?_)
  have := (h.1.lt wr.heap.size hk.symm).2
  omega

set_option maxRecDepth 100000 in
set_option maxHeartbeats 1600000 in
theorem remove_any (b n cap msg c : Nat) (A : Option Addr) (xs : List (Int × Int)) (f g : Int) (w : World) (hfg : f ≤ g)
    (hcell : w.cell? ⟨b, msg, none⟩ = some (.slice A xs.length c)) (hfr : w.frozen? ⟨b, msg, none⟩ = false) (hmsg : msg < n) (hA : Prs w A xs) (hn : xs.length ≤ 65536) (hn2 : n ≤ 65536) :
    Calls Try.prog 18 #[.slice (some ⟨b, 0, none⟩) n cap, .agg #[.int .i64 msg, .int .i64 f, .int .i64 g]] w fun e w' => ∃ t : Bool, e = .returned (.bool t) ∧ (t = true ↔ remL f g xs ≠ xs) ∧
      ∃ w1 V c', Below w.heap.size w w1 ∧ w' = w1.setCell ⟨b, msg, none⟩ (.slice V (remL f g xs).length c') ∧ Prs w1 V (remL f g xs) ∧ (V = none ↔ remL f g xs = []) ∧ (∀ a, V = some a → w.heap.size ≤ a.block) := by
  have hbw : b < w.heap.size := cell_lt hcell
  go_enter Try.func18, Try.ntmps18
  go_wp2
  have HFR : Hid (w.frozen? ⟨b, msg, none⟩ = false) := hfr
  have HCE : Hid (w.cell? ⟨b, msg, none⟩ = some (.slice A xs.length c)) := hcell
  clear hfr hcell
  go_loopg [5, 15] xs.length (fun gk v i wr => ∃ k : Nat, k ≤ xs.length ∧ gk = xs.length - k ∧ i = .int .i64 k ∧ Rel w wr msg f g v (remL f g (xs.take k)))
  case atStart => exact ⟨0, Nat.zero_le _, rfl, rfl, by simpa [remL] using Own.nil _ _ _, (Below.refl _ _).alloc (Nat.le_refl _) _, by simp, by simp, by simp, by simp⟩
  case round =>
    obtain ⟨k, hk, rfl, rfl, hrel⟩ := hrel
    have hsz := hrel.size
    by_cases hlt : k < xs.length
    · obtain ⟨bb, off, rfl, p0, p1⟩ := hA k hlt
      have HT : Hid (remL f g (xs.take (k + 1)) = remL f g (xs.take k) ++ rem1 f g (fa xs k, sa xs k)) := remL_take f g xs k hlt
      have hlen : (remL f g (xs.take k)).length ≤ 131072 := by
        have := remL_len f g (xs.take k)
        have h2 : (xs.take k).length ≤ k := List.length_take_le _ _
        omega
      have c0 : wr.cell? ⟨bb, off + k * 2, none⟩ = some (.int .i64 (fa xs k)) := by rw [hrel.below.cell (cell_lt p0)]; exact p0
      have c1 : wr.cell? ⟨bb, off + k * 2 + 1, none⟩ = some (.int .i64 (sa xs k)) := by rw [hrel.below.cell (cell_lt p1)]; exact p1
      clear p0 p1
      generalize fa xs k = a at c0 HT
      generalize sa xs k = d at c1 HT
      have hrel1 := fun o => hrel.alloc o
      have f0 := fun o => (hrel1 o).c0
      have f1 := fun o => (hrel1 o).c1
      have f2 := fun o => (hrel1 o).c2
      rcases (show (f ≤ a ∧ d ≤ g) ∨ (a < f ∧ f < d ∧ g < d) ∨ (a < f ∧ f < d ∧ d ≤ g) ∨ (f ≤ a ∧ a < g ∧ g < d) ∨ (f ≤ a ∧ g ≤ a ∧ g < d) ∨ (a < f ∧ d ≤ f) from by omega) with ⟨h1, h2⟩ | ⟨h1, h2, h3⟩ | ⟨h1, h2, h3⟩ | ⟨h1, h2, h3⟩ | ⟨h1, h2, h3⟩ | ⟨h1, h2⟩
      · go_wp2
        go_roundg (xs.length - (k + 1))
        case measure => omega
        case rel =>
          refine ⟨k + 1, by omega, rfl, by go_num, ?_⟩
          rw [HT.out, r1 h1 h2, List.append_nil]
          exact hrel1 _
      · have hdd : decide (f ≤ a) = false := by simp; omega
        go_wp2_with (at_builtin; refine wpList_app _ (.tmp 59) (.tmp 66) 46 41 a f _ (w.heap.size + 1) Try.underlying46 info41 (by omega) _ _ rfl rfl rfl rfl ((hrel1 _).alloc _).own ?_ ?_ ?_ ?_)
        · simp
        · simp [Addr.add]
        · simp; omega
        · intro v1 w1 ho1 hg1
          have hrel2 := ((hrel1 _).alloc _).app hg1 ho1
          have s0 := kept_new hrel.own _ _ hg1 (j := 0) (u := .int .i64 a) (by simp)
          have s1 := kept_new hrel.own _ _ hg1 (j := 1) (u := .int .i64 d) (by simp)
          have g0 := hrel2.c0
          have g1 := hrel2.c1
          have g2 := hrel2.c2
          have hsz2 := hrel2.size
          have hrel3 := fun o => hrel2.alloc o
          clear ho1 hg1 hrel1 f0 f1 f2 c0 c1
          go_wp2_with (at_builtin; refine wpList_app _ (.tmp 74) (.tmp 81) 46 41 g d _ (w.heap.size + 1) Try.underlying46 info41 (by simp; omega) _ _ rfl rfl rfl rfl (hrel3 _).own ?_ ?_ ?_ ?_)
          · simp
          · simp [Addr.add]
          · simp; omega
          · intro v2 w2 ho2 hg2
            have hrel4 := (hrel3 _).app hg2 ho2
            clear ho2 hg2 hrel3 g0 g1 g2 s0 s1
            go_wp2
            go_roundg (xs.length - (k + 1))
            case measure => omega
            case rel =>
              refine ⟨k + 1, by omega, rfl, by go_num, ?_⟩
              rw [HT.out, r2 hfg h1 h2 h3]
              simpa using hrel4
      · have hdd : decide (f ≤ a) = false := by simp; omega
        go_wp2_with (at_builtin; refine wpList_app _ (.tmp 59) (.tmp 66) 46 41 a f _ (w.heap.size + 1) Try.underlying46 info41 (by omega) _ _ rfl rfl rfl rfl ((hrel1 _).alloc _).own ?_ ?_ ?_ ?_)
        · simp
        · simp [Addr.add]
        · simp; omega
        · intro v1 w1 ho1 hg1
          have hrel2 := ((hrel1 _).alloc _).app hg1 ho1
          have s0 := kept_new hrel.own _ _ hg1 (j := 0) (u := .int .i64 a) (by simp)
          have s1 := kept_new hrel.own _ _ hg1 (j := 1) (u := .int .i64 d) (by simp)
          have g0 := hrel2.c0
          have g1 := hrel2.c1
          have g2 := hrel2.c2
          clear ho1 hg1 hrel1 f0 f1 f2 c0 c1
          go_wp2
          go_roundg (xs.length - (k + 1))
          case measure => omega
          case rel =>
            refine ⟨k + 1, by omega, rfl, by go_num, ?_⟩
            rw [HT.out, r3 hfg h1 h2 h3]
            exact hrel2
      · go_wp2_with (at_builtin; refine wpList_app _ (.tmp 74) (.tmp 81) 46 41 g d _ (w.heap.size + 1) Try.underlying46 info41 (by omega) _ _ rfl rfl rfl rfl ((hrel1 _).alloc _).own ?_ ?_ ?_ ?_)
        · simp
        · simp [Addr.add]
        · simp; omega
        · intro v1 w1 ho1 hg1
          have hrel2 := ((hrel1 _).alloc _).app hg1 ho1
          clear ho1 hg1 hrel1 f0 f1 f2 c0 c1
          go_wp2
          go_roundg (xs.length - (k + 1))
          case measure => omega
          case rel =>
            refine ⟨k + 1, by omega, rfl, by go_num, ?_⟩
            rw [HT.out, r4 hfg h1 h2 h3]
            exact hrel2
      · go_wp2_with (at_builtin; refine wpList_app _ (.tmp 19) (.tmp 21) 46 41 a d _ (w.heap.size + 1) Try.underlying46 info41 (by omega) _ _ rfl rfl rfl rfl ((hrel1 _).alloc _).own ?_ ?_ ?_ ?_)
        · simp
        · simp [Addr.add]
        · simp; omega
        · intro v1 w1 ho1 hg1
          have hrel2 := ((hrel1 _).alloc _).app hg1 ho1
          clear ho1 hg1 hrel1 f0 f1 f2 c0 c1
          go_wp2
          go_roundg (xs.length - (k + 1))
          case measure => omega
          case rel =>
            refine ⟨k + 1, by omega, rfl, by go_num, ?_⟩
            rw [HT.out, r5 hfg h1 h2 h3]
            exact hrel2
      · have hdd : decide (f ≤ a) = false := by simp; omega
        have hdd2 : decide (f < d) = false := by simp; omega
        go_wp2_with (at_builtin; refine wpList_app _ (.tmp 19) (.tmp 21) 46 41 a d _ (w.heap.size + 1) Try.underlying46 info41 (by omega) _ _ rfl rfl rfl rfl ((hrel1 _).alloc _).own ?_ ?_ ?_ ?_)
        · simp
        · simp [Addr.add]
        · simp; omega
        · intro v1 w1 ho1 hg1
          have hrel2 := ((hrel1 _).alloc _).app hg1 ho1
          clear ho1 hg1 hrel1 f0 f1 f2 c0 c1
          go_wp2
          go_roundg (xs.length - (k + 1))
          case measure => omega
          case rel =>
            refine ⟨k + 1, by omega, rfl, by go_num, ?_⟩
            rw [HT.out, r6 hfg h1 h2]
            exact hrel2
    · have hkl : k = xs.length := by omega
      subst hkl
      rw [List.take_length] at hrel
      obtain ⟨V, cV, hv, hP, hnil, hblk⟩ := hrel.own.prs
      subst hv
      have hbel := hrel.below
      have hc := hrel.c0
      have d0 : wr.cell? ⟨b, msg, none⟩ = some (.slice A xs.length c) := by rw [hbel.cell (show b < w.heap.size from hbw)]; exact HCE.out
      have d1 : wr.frozen? ⟨b, msg, none⟩ = false := by rw [hbel.frozen (show b < w.heap.size from hbw)]; exact HFR.out
      have hA' := hA.below hbel
      have hlen : (remL f g xs).length ≤ 131072 := by
        have := remL_len f g xs
        omega
      have HNIL : Hid (V = none ↔ remL f g xs = []) := hnil
      clear hnil hrel
      go_wp2_with fail
      refine (equal_any V A cV c (remL f g xs) xs _ hP hA' (by omega)).mono ?_
      rintro e w' ⟨t, rfl, ht, m, rfl⟩
      have HTT : Hid (t = true ↔ remL f g xs = xs) := ht
      clear ht
      go_wp2
      go_ret
      refine ⟨!t, rfl, ?_, wr.drewN m, V, cV, below_drewN hbel m, rfl, hP.drewN m, HNIL.out, fun a ha => by have := (hblk a ha).1; omega⟩
      have := HTT.out
      rw [ne_eq, ← this]
      simp
end Go.Proofs.Qxb6604105a
