import Derived.Test.Qxb6605238aTake
namespace Go.Proofs.Qxb6605238a
open Go.RowKit Go.Deep
set_option linter.unusedVariables false
set_option linter.unusedSimpArgs false

/-! ### The plain lengths -/
theorem count_lt (l : List Nat) (hl : l.Nodup) : ∀ m : Nat, l.countP (fun x => decide (x < m)) ≤ m
  | 0 => by simp
  | m + 1 => by
    have := countP_flip (p := fun x => decide (x < m + 1)) (q := fun x => decide (x < m)) (v := m) (by simp) (by simp) (fun x hx => by simp; omega) hl
    have ih := count_lt l hl m
    split at this <;> omega
theorem nodup_le {l : List Nat} {n : Nat} (hl : l.Nodup) (h : ∀ x ∈ l, x < n) : l.length ≤ n := by
  have h1 := count_lt l hl n
  have h2 : l.countP (fun x => decide (x < n)) = l.length := by
    rw [List.countP_eq_length]
    intro x hx
    simpa using h x hx
  omega
theorem count_all (l : List Nat) (hl : l.Nodup) : ∀ m : Nat, (∀ x, x < m → x ∈ l) → l.countP (fun x => decide (x < m)) = m
  | 0, _ => by simp
  | m + 1, h => by
    have := countP_flip (p := fun x => decide (x < m + 1)) (q := fun x => decide (x < m)) (v := m) (by simp) (by simp) (fun x hx => by simp; omega) hl
    rw [if_pos (h m (by omega)), count_all l hl m (fun x hx => h x (by omega))] at this
    exact this
theorem exists_out {l : List Nat} {n : Nat} (hl : l.Nodup) (h : l.length < n) : ∃ x, x < n ∧ x ∉ l := by
  refine Classical.byContradiction fun hc => ?_
  have h1 := count_all l hl n (fun x hx => Classical.byContradiction fun h2 => hc ⟨x, hx, h2⟩)
  have h2 : l.countP (fun x => decide (x < n)) ≤ l.length := List.countP_le_length
  omega

/-! ### The rows by what they mean -/
def rsS (n : Nat) (adj : Nat → List Nat) (L : List Nat) (r0 : Nat → Int) : Nat → Int := fun i => if i < n then (rst adj L i : Int) else r0 i
def clS (n : Nat) (adj : Nat → List Nat) (L : List Nat) : Nat → Int := fun i => if i < n then (cls adj L i : Int) else 0
def isS (n : Nat) (adj : Nat → List Nat) (L : List Nat) : Nat → Bool := fun i => if i < n then isn adj L i else false

variable {n : Nat} {adj : Nat → List Nat} {L : List Nat} {v : Nat} {r0 : Nat → Int}

theorem up_inL : up (inL L) v true = inL (L ++ [v]) := by
  funext i
  unfold up
  rw [inL_snoc]
  by_cases e : i = v
  · rw [if_pos e]; simp [e]
  · rw [if_neg e]; simp [e]

theorem sem_rs (G : Gr n adj) (hv : v < n) (hL : v ∉ L) (i : Nat) : rsk adj (rsS n adj L r0) v (adj v).length i = rsS n adj (L ++ [v]) r0 i := by
  unfold rsk rsS
  rw [List.take_length]
  by_cases hi : i < n
  · rw [if_pos hi, if_pos hi]
    have := rst_snoc G hv hi hL
    by_cases e : i ∈ adj v
    · rw [if_pos e] at this ⊢; omega
    · rw [if_neg e] at this ⊢; omega
  · rw [if_neg hi, if_neg hi, if_neg (fun h => hi (G.rng v hv i h))]; omega

theorem sem_is (G : Gr n adj) (hv : v < n) (hL : v ∉ L) (i : Nat) : isk adj (inL (L ++ [v])) (isS n adj L) v (adj v).length i = isS n adj (L ++ [v]) i := by
  unfold isk isS
  rw [List.take_length]
  by_cases hi : i < n
  · rw [if_pos hi, if_pos hi, isn_snoc G hv hi hL]
  · rw [if_neg hi, if_neg hi]
    have : i ∉ adj v := fun h => hi (G.rng v hv i h)
    simp [this]

theorem sem_nl (G : Gr n adj) (hv : v < n) : nlk adj (inL (L ++ [v])) (isS n adj L) v (adj v).length = (adj v).filter fun x => !inL (L ++ [v]) x && !isn adj L x := by
  unfold nlk
  rw [List.take_length]
  refine List.filter_congr fun x hx => ?_
  unfold isS
  rw [if_pos (G.rng v hv x hx)]

theorem sem_cl (G : Gr n adj) (hv : v < n) (hL : v ∉ L) (i : Nat) : clk adj (inL (L ++ [v])) (rsS n adj L r0) (clS n adj L) v (adj v).length i = clS n adj (L ++ [v]) i := by
  unfold clk clS
  rw [List.take_length]
  have hcong : ((adj v).countP fun w => inL (L ++ [v]) w && decide (rsS n adj L r0 w = 2) && decide ((adj w).find? (fun x => !inL (L ++ [v]) x) = some i)) = ((adj v).countP fun w => inL (L ++ [v]) w && decide (rst adj L w = 2) && decide ((adj w).find? (fun x => !inL (L ++ [v]) x) = some i)) := by
    refine List.countP_congr fun w hw => ?_
    have : rsS n adj L r0 w = (rst adj L w : Int) := by unfold rsS; rw [if_pos (G.rng v hv w hw)]
    rw [this]
    have e : ((rst adj L w : Int) = 2) = (rst adj L w = 2) := by apply propext; omega
    simp only [e]
  rw [hcong]
  have hrv : rsS n adj L r0 v = (rst adj L v : Int) := by unfold rsS; rw [if_pos hv]
  rw [hrv]
  have e1 : ((rst adj L v : Int) = 1) = (rst adj L v = 1) := by apply propext; omega
  simp only [e1]
  by_cases hi : i < n
  · rw [if_pos hi, if_pos hi, cls_snoc G hv hi hL]
    unfold addC
    split <;> omega
  · rw [if_neg hi, if_neg hi]
    have hf : ∀ w, w < n → (adj w).find? (fun x => !inL (L ++ [v]) x) ≠ some i := fun w hw h => hi (G.rng w hw i (List.mem_of_find?_eq_some h))
    rw [if_neg (fun h => hf v hv h.2), List.countP_eq_zero.2 (fun w hw => by simp [hf w (G.rng v hv w hw)])]
    rfl

/-- The order search's memory, L taken. -/
def SS (y : Lay) (adj : Nat → List Nat) (r0 : Nat → Int) (wr : World) (L : List Nat) (nv : Value) (NL : List Nat) : Prop :=
  ∃ wk, OS y wr (inL L) (rsS y.n adj L r0) (clS y.n adj L) (isS y.n adj L) nv NL wk

theorem rst_le (i : Nat) : rst adj L i ≤ (adj i).length := List.countP_le_length
theorem cls_le (i : Nat) : cls adj L i ≤ (adj i).length := List.countP_le_length

theorem take_sem {y : Lay} {nv : Value} {K : List Nat} (ok : y.Ok) (G : Gr y.n adj) (hv : v < y.n) (hL : v ∉ L) (w : World) (hO : SS y adj r0 w L nv K) (hN : Nb w y.B y.G y.n adj) (hd : ∀ x, x < y.n → (adj x).length ≤ 65536) (hK : Kept y.n adj L K) :
    Calls Try.prog 21 #[.pointer (some ⟨y.b, 0, none⟩), .int .i64 v] w fun e w' => e = .returned (.tuple #[]) ∧ (∃ nv' NL', SS y adj r0 w' (L ++ [v]) nv' NL' ∧ Near y.n adj (L ++ [v]) v NL' ∧ NOk w nv nv') ∧ Frm (Six y nv) w w' := by
  obtain ⟨wk, hO⟩ := hO
  have hn : y.n ≤ 65536 := by have := ok.h6; have := ok.m1; omega
  have hKl := nodup_le hK.nd (fun x hx => ((hK.mem x).1 hx).1)
  refine (take_any ok G v hv w hO hN hd (fun u hu => ?_) (fun u hu => ?_) (by omega)).mono ?_
  · unfold clS
    rw [if_pos hu]
    have := cls_le (adj := adj) (L := L) u
    have := hd u hu
    omega
  · unfold rsS
    rw [if_pos hu]
    have := rst_le (adj := adj) (L := L) u
    have := hd u hu
    omega
  · rintro e w' ⟨rfl, ⟨nv', wk', hO', hno⟩, hF⟩
    refine ⟨rfl, ⟨nv', _, ⟨wk', ?_⟩, hK.take G hv hL, hno⟩, hF⟩
    rw [up_inL, sem_nl G hv] at hO'
    exact hO'.congr (fun _ _ => rfl) (fun i _ => sem_rs G hv hL i) (fun i _ => sem_cl G hv hL i) (fun i _ => sem_is G hv hL i)
end Go.Proofs.Qxb6605238a
