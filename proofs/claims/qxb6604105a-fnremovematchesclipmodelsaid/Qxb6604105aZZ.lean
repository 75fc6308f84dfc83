import Derived.Test.Qxb6604105aRemove
import Derived.Test.Qxb6604105aToR
import Derived.Test.Qxb6604105aFromR
namespace Go.Proofs.Qxb6604105a
open Go.RowKit Go.Deep
set_option linter.unusedVariables false
set_option linter.unusedSimpArgs false

theorem Prs.setOther {w : World} {A : Option Addr} {xs : List (Int × Int)} (h : Prs w A xs) {b : Nat} (hb : ∀ a, A = some a → a.block ≠ b) (o : Nat) (v : Value) : Prs (w.setCell ⟨b, o, none⟩ v) A xs := by
  intro i hi
  obtain ⟨bb, off, hA, h0, h1⟩ := h i hi
  have hne := hb _ hA
  refine ⟨bb, off, hA, ?_, ?_⟩
  · rw [World.cell?_setCell_other _ _ _ _ (fun e => hne (by cases e; rfl))]; exact h0
  · rw [World.cell?_setCell_other _ _ _ _ (fun e => hne (by cases e; rfl))]; exact h1

/-- The lists behind remove. -/
def newR (msg : Nat) (f g : Int) (R : Nat → List (Int × Int)) (i : Nat) : List (Int × Int) := if i = msg then remL f g (R msg) else R i
def newA (msg : Nat) (V : Option Addr) (W : Nat → Option Addr) (i : Nat) : Option Addr := if i = msg then V else W i

/-- Between remove and the way back: the lists behind remove lie in the copy. -/
theorem mid_rng {w w1 w2 : World} {n msg c' : Nat} {f g : Int} {R : Nat → List (Int × Int)} {IA W : Nat → Option Addr} {V : Option Addr} (hT : Top w w1 46 41 n n R IA W) (hbare : ∀ i, i < n → IA i = none → R i = []) (hmsg : msg < n)
    (hb : Below w1.heap.size w1 w2) (hP : Prs w2 V (remL f g (R msg))) (hnil : V = none ↔ remL f g (R msg) = []) (hblk : ∀ a, V = some a → w1.heap.size ≤ a.block) :
    Rng (w2.setCell ⟨w.heap.size, msg, none⟩ (.slice V (remL f g (R msg)).length c')) (some ⟨w.heap.size, 0, none⟩) n (newR msg f g R) (newA msg V W) (fun i => if i = msg then c' else (R i).length) := by
  have hlt := hT.lt
  have hR := (hT.rng hbare).below hb
  refine ⟨fun i hi => ⟨w.heap.size, 0, rfl, ?_⟩, fun i hi => ?_, fun i hi hn => ?_⟩
  · obtain ⟨b, off, e1, hc⟩ := hR.cell i hi
    cases e1
    rw [Nat.zero_add] at hc ⊢
    unfold newR newA
    by_cases e : i = msg
    · subst e
      rw [if_pos rfl, if_pos rfl, if_pos rfl]
      exact World.cell?_setCell_same _ _ _ hc
    · rw [if_neg e, if_neg e, if_neg e, World.cell?_setCell_other _ _ _ _ (fun h => e (by cases h; rfl))]
      exact hc
  · unfold newR newA
    by_cases e : i = msg
    · subst e
      rw [if_pos rfl, if_pos rfl]
      exact hP.setOther (fun a ha => by have := hblk a ha; omega) _ _
    · rw [if_neg e, if_neg e]
      refine (hR.row i hi).setOther (fun a ha => ?_) _ _
      by_cases hn : IA i = none
      · rw [hT.nils i hi hn] at ha; cases ha
      · obtain ⟨g', e1, e2, e3⟩ := hT.rows i hi hn
        rw [e1] at ha
        cases ha
        show g' ≠ w.heap.size
        omega
  · unfold newA at hn
    unfold newR
    by_cases e : i = msg
    · subst e
      rw [if_pos rfl] at hn ⊢
      exact hnil.1 hn
    · rw [if_neg e] at hn ⊢
      exact hR.bare i hi hn

theorem newA_nil {w w1 : World} {n msg : Nat} {f g : Int} {R : Nat → List (Int × Int)} {IA W : Nat → Option Addr} {V : Option Addr} (hT : Top w w1 46 41 n n R IA W)
    (hnil : V = none ↔ remL f g (R msg) = []) : ∀ i, i < n → (newA msg V W i = none ↔ if i = msg then remL f g (R msg) = [] else IA i = none) := by
  intro i hi
  unfold newA
  by_cases e : i = msg
  · rw [if_pos e, if_pos e]; exact hnil
  · rw [if_neg e, if_neg e]
    constructor
    · intro h
      by_cases hn : IA i = none
      · exact hn
      · obtain ⟨g', e1, _⟩ := hT.rows i hi hn
        rw [e1] at h; cases h
    · exact hT.nils i hi

/-- A copy's nils are those of what was copied. -/
theorem Top.nil_iff {w wr : World} {E e : TypeId} {n : Nat} {R : Nat → List (Int × Int)} {IA V : Nat → Option Addr} (h : Top w wr E e n n R IA V) : ∀ i, i < n → (V i = none ↔ IA i = none) := by
  intro i hi
  constructor
  · intro hv
    by_cases hn : IA i = none
    · exact hn
    · obtain ⟨g', e1, _⟩ := h.rows i hi hn
      rw [e1] at hv; cases hv
  · exact h.nils i hi

set_option maxHeartbeats 800000 in
theorem zz_any (A : Option Addr) (n cap msg : Nat) (f g : Int) (R : Nat → List (Int × Int)) (IA : Nat → Option Addr) (C : Nat → Nat) (w : World) (hfg : f ≤ g) (hR : Rng w A n R IA C) (hmsg : msg < n) (hn2 : n ≤ 65536) (hL : ∀ i, i < n → (R i).length ≤ 65536) :
    Calls Try.prog 9 #[.slice A n cap, .int .i64 msg, .int .i64 f, .int .i64 g] w fun e w' => ∃ (t : Bool) (N : Nat) (V : Nat → Option Addr), e = .returned (.tuple #[.slice (some ⟨N, 0, none⟩) n n, .bool t]) ∧ (t = true ↔ remL f g (R msg) ≠ R msg) ∧
      Rng w' (some ⟨N, 0, none⟩) n (newR msg f g R) V (fun i => (newR msg f g R i).length) ∧ (∀ i, i < n → (V i = none ↔ if i = msg then remL f g (R msg) = [] else IA i = none)) ∧ Below w.heap.size w w' := by
  go_enter Try.func9, Try.ntmps9
  go_wp2_with fail
  refine (toRanges_any A n cap R IA C w hR (by omega) hn2 (fun i hi => by have := hL i hi; omega)).mono ?_
  rintro e w1 ⟨rfl, W, hT⟩
  have hbare := hR.bare
  have hlt := hT.lt
  have hrng := hT.rng hbare
  obtain ⟨b, off, e1, hc⟩ := hrng.cell msg hmsg
  cases e1
  rw [Nat.zero_add] at hc
  have hfr := hT.top.frozen msg
  have hrow := hrng.row msg hmsg
  have hLm := hL msg hmsg
  have HH : Hid (∀ i, i < n → IA i = none → R i = []) := hbare
  have HL : Hid (∀ i, i < n → (R i).length ≤ 65536) := hL
  clear hbare hL
  go_wp2_with fail
  refine (remove_any w.heap.size n n msg (R msg).length (W msg) (R msg) f g w1 hfg hc hfr hmsg hrow (by omega) hn2).mono ?_
  rintro e w' ⟨t, rfl, ht, w2, V, c', hb2, rfl, hP, hnil, hblk⟩
  have HT : Hid (t = true ↔ remL f g (R msg) ≠ R msg) := ht
  have hM := mid_rng (c' := c') hT HH.out hmsg hb2 hP hnil hblk
  have hNi := newA_nil hT hnil
  have hbel : Below w.heap.size w (w2.setCell ⟨w.heap.size, msg, none⟩ (.slice V (remL f g (R msg)).length c')) := (hT.below.trans (hb2.mono (by omega))).setCell (Nat.le_refl _) _
  have HNi : Hid (∀ i, i < n → (newA msg V W i = none ↔ if i = msg then remL f g (R msg) = [] else IA i = none)) := hNi
  generalize w2.setCell ⟨w.heap.size, msg, none⟩ (.slice V (remL f g (R msg)).length c') = w3 at hM hbel ⊢
  clear ht hnil hNi hP hblk hb2 hc hfr hrow
  go_wp2_with fail
  refine (fromRanges_any _ n n (newR msg f g R) (newA msg V W) _ w3 hM (by omega) hn2 (fun i hi => ?_)).mono ?_
  · unfold newR
    split
    · have := remL_len f g (R msg)
      omega
    · have := HL.out i hi
      omega
  rintro e w4 ⟨rfl, V4, hT4⟩
  have hsz := hbel.size
  have hfin := hT4.rng hM.bare
  have hbel4 : Below w.heap.size w w4 := hbel.trans (hT4.below.mono hsz)
  have hni4 := hT4.nil_iff
  have HNI4 : Hid (∀ i, i < n → (V4 i = none ↔ newA msg V W i = none)) := hni4
  clear hni4 hT4
  go_wp2_with fail
  go_ret2
  exact ⟨t, _, V4, rfl, HT.out, hfin, fun i hi => (HNI4.out i hi).trans (HNi.out i hi), hbel4⟩
end Go.Proofs.Qxb6604105a
