import Derived.Test.Qxb6605274aRows
import Derived.Test.Qxb6605274aConst
import Derived.WalkKit
import Derived.ProofKit
import Derived.WalkSpells
import Derived.WalkLawsBesides
import Derived.Deep.LoopGhost
import Derived.Deep.QuietTactic
import Derived.BigQuiet
import Derived.Lib.AppendStr
namespace Go.Proofs.Qxb6605274a
open Go.RowKit
set_option linter.unusedVariables false
set_option linter.unusedSimpArgs false

theorem hide {p : Prop} (h : p) : Hid p := h

/-- A list of bytes as a string. -/
def B (l : List UInt8) : ByteArray := ⟨l.toArray⟩
theorem B_size (l : List UInt8) : (B l).size = l.length := by simp [B, ByteArray.size]
theorem B_data (l : List UInt8) : (B l).data.toList = l := by simp [B]
theorem B_of (s : ByteArray) : B s.data.toList = s := by simp [B]
theorem B_append (l m : List UInt8) : B l ++ B m = B (l ++ m) := by
  apply ByteArray.ext
  simp [B]

def lOwn (p : List UInt8) : List UInt8 := kOwn1 ++ p ++ kOwn2
def lTo (p : List UInt8) : List UInt8 := kTo1 ++ p ++ kTo2 ++ p ++ kTo3
def lRol (on p : List UInt8) : List UInt8 := kRol1 ++ on ++ kRol2 ++ lTo p ++ kRol3
def lRel (walk p : List UInt8) : List UInt8 := lOwn p ++ kComma ++ lRol (kSel ++ walk) p
def lHeld (id p : List UInt8) : List UInt8 := kHeld1 ++ lRel kEncl p ++ kHeld2 ++ id ++ kHeld3 ++ lRel kAbove p ++ kHeld4

theorem cat_data (a b : ByteArray) : (a ++ b).data.toList = a.data.toList ++ b.data.toList := by simp
theorem cat_size (a b : ByteArray) : (a ++ b).size = a.size + b.size := by simp
theorem sz (s : ByteArray) : s.size = s.data.toList.length := by rw [Array.length_toList]; rfl

def sOwn (p : ByteArray) : ByteArray := B kOwn1 ++ p ++ B kOwn2
def sTo (p : ByteArray) : ByteArray := B kTo1 ++ p ++ B kTo2 ++ p ++ B kTo3
def sRol (on p : ByteArray) : ByteArray := B kRol1 ++ on ++ B kRol2 ++ sTo p ++ B kRol3
def sRel (walk p : ByteArray) : ByteArray := sOwn p ++ B kComma ++ sRol (B kSel ++ walk) p
def sHeld (id p : ByteArray) : ByteArray := B kHeld1 ++ sRel (B kEncl) p ++ B kHeld2 ++ id ++ B kHeld3 ++ sRel (B kAbove) p ++ B kHeld4

theorem sOwn_data (p : ByteArray) : (sOwn p).data.toList = lOwn p.data.toList := by simp only [sOwn, lOwn, cat_data, B_data]
theorem sTo_data (p : ByteArray) : (sTo p).data.toList = lTo p.data.toList := by simp only [sTo, lTo, cat_data, B_data]
theorem sRol_data (on p : ByteArray) : (sRol on p).data.toList = lRol on.data.toList p.data.toList := by simp only [sRol, lRol, cat_data, B_data, sTo_data]
theorem sRel_data (walk p : ByteArray) : (sRel walk p).data.toList = lRel walk.data.toList p.data.toList := by simp only [sRel, lRel, cat_data, B_data, sOwn_data, sRol_data]
theorem sHeld_data (id p : ByteArray) : (sHeld id p).data.toList = lHeld id.data.toList p.data.toList := by simp only [sHeld, lHeld, cat_data, B_data, sRel_data]

theorem sOwn_size (p : ByteArray) : (sOwn p).size = p.size + 37 := by simp only [sOwn, cat_size, B_size]; simp [kOwn1, kOwn2]; omega
theorem sTo_size (p : ByteArray) : (sTo p).size = 2 * p.size + 102 := by simp only [sTo, cat_size, B_size]; simp [kTo1, kTo2, kTo3]; omega
theorem sRol_size (on p : ByteArray) : (sRol on p).size = on.size + 2 * p.size + 172 := by simp only [sRol, cat_size, B_size, sTo_size]; simp [kRol1, kRol2, kRol3]; omega
theorem sRel_size (walk p : ByteArray) : (sRel walk p).size = walk.size + 3 * p.size + 226 := by simp only [sRel, cat_size, B_size, sOwn_size, sRol_size]; simp [kComma, kSel]; omega
theorem sHeld_size (id p : ByteArray) : (sHeld id p).size = id.size + 6 * p.size + 632 := by simp only [sHeld, cat_size, B_size, sRel_size]; simp [kHeld1, kHeld2, kHeld3, kHeld4, kEncl, kAbove]; omega

set_option maxRecDepth 100000 in
set_option maxHeartbeats 400000 in
theorem owns_any (p : ByteArray) (w : World) (hp : p.size ≤ 1048576) : Calls Try.prog 26 #[.string p] w fun e w' => e = .returned (.string (sOwn p)) ∧ w' = w := by
  go_enter Try.func26, Try.ntmps26
  go_wp2
  go_ret
  exact ⟨rfl, rfl⟩

set_option maxRecDepth 100000 in
set_option maxHeartbeats 400000 in
theorem to_any (p : ByteArray) (w : World) (hp : p.size ≤ 1048576) : Calls Try.prog 28 #[.string p] w fun e w' => e = .returned (.string (sTo p)) ∧ w' = w := by
  go_enter Try.func28, Try.ntmps28
  go_wp2
  go_ret
  exact ⟨rfl, rfl⟩

set_option maxRecDepth 100000 in
set_option maxHeartbeats 400000 in
theorem rol_any (on p : ByteArray) (w : World) (hp : p.size ≤ 1048576) (ho : on.size ≤ 1048576) : Calls Try.prog 27 #[.string on, .string p] w fun e w' => e = .returned (.string (sRol on p)) ∧ w' = w := by
  have h1 : (sTo p).size ≤ 3000000 := by rw [sTo_size]; omega
  go_enter Try.func27, Try.ntmps27
  go_wp2_with (go_at_call 28; refine (to_any p _ hp).mono ?_; rintro e w' ⟨rfl, hw⟩; rw [hw]; clear hw w')
  go_ret
  exact ⟨rfl, rfl⟩

set_option maxRecDepth 100000 in
set_option maxHeartbeats 400000 in
theorem relOf_any (walk p : ByteArray) (w : World) (hp : p.size ≤ 1048576) (ho : walk.size ≤ 1000) : Calls Try.prog 25 #[.string walk, .string p] w fun e w' => e = .returned (.tuple #[.string (sOwn p), .string (sRol (B kSel ++ walk) p)]) ∧ w' = w := by
  go_enter Try.func25, Try.ntmps25
  go_wp2_with fail
  refine (owns_any p _ hp).mono ?_
  rintro e w' ⟨rfl, hw⟩
  rw [hw]
  clear hw w'
  go_wp2_with fail
  refine (rol_any (B kSel ++ walk) p _ hp ?_).mono ?_
  · rw [cat_size, B_size]; simp [kSel]; omega
  rintro e w' ⟨rfl, hw⟩
  rw [hw]
  clear hw w'
  go_wp2_with fail
  go_ret2
  exact ⟨rfl, rfl⟩

set_option maxRecDepth 100000 in
set_option maxHeartbeats 400000 in
theorem rel_any (walk p : ByteArray) (w : World) (hp : p.size ≤ 1048576) (ho : walk.size ≤ 1000) : Calls Try.prog 24 #[.string walk, .string p] w fun e w' => e = .returned (.string (sRel walk p)) ∧ w' = w := by
  have h1 : (sOwn p).size ≤ 3000000 := by rw [sOwn_size]; omega
  have h2 : (sRol (B kSel ++ walk) p).size ≤ 10000000 := by rw [sRol_size, cat_size, B_size]; simp [kSel]; omega
  go_enter Try.func24, Try.ntmps24
  go_wp2_with fail
  refine (relOf_any walk p _ hp ho).mono ?_
  rintro e w' ⟨rfl, hw⟩
  rw [hw]
  clear hw w'
  have HE : Hid (sRel walk p = sOwn p ++ B kComma ++ sRol (B kSel ++ walk) p) := rfl
  generalize sRol (B kSel ++ walk) p = q at *
  go_wp2_with fail
  go_ret
  exact ⟨by rw [HE.out]; rfl, rfl⟩

set_option maxRecDepth 100000 in
set_option maxHeartbeats 400000 in
theorem rel20_any (walk p : ByteArray) (w : World) (hp : p.size ≤ 1048576) (ho : walk.size ≤ 1000) : Calls Try.prog 20 #[.string walk, .string p] w fun e w' => e = .returned (.string (sRel walk p)) ∧ w' = w := by
  go_enter Try.func20, Try.ntmps20
  go_wp2_with fail
  refine (rel_any walk p _ hp ho).mono ?_
  rintro e w' ⟨rfl, hw⟩
  rw [hw]
  clear hw w'
  go_wp2_with fail
  go_ret
  exact ⟨rfl, rfl⟩

set_option maxRecDepth 100000 in
set_option maxHeartbeats 800000 in
theorem held_any (id p : ByteArray) (w : World) (hp : p.size ≤ 1048576) (hi : id.size ≤ 1048576) : Calls Try.prog 23 #[.string id, .string p] w fun e w' => e = .returned (.string (sHeld id p)) ∧ w' = w := by
  have h1 : (sRel (B kEncl) p).size ≤ 10000000 := by rw [sRel_size, B_size]; simp [kEncl]; omega
  have h2 : (sRel (B kAbove) p).size ≤ 10000000 := by rw [sRel_size, B_size]; simp [kAbove]; omega
  go_enter Try.func23, Try.ntmps23
  go_wp2_with fail
  refine (rel_any (B kEncl) p _ hp (by rw [B_size]; decide)).mono ?_
  rintro e w' ⟨rfl, hw⟩
  rw [hw]
  clear hw w'
  go_wp2_with fail
  refine (rel_any (B kAbove) p _ hp (by rw [B_size]; decide)).mono ?_
  rintro e w' ⟨rfl, hw⟩
  rw [hw]
  clear hw w'
  go_wp2_with fail
  go_ret
  exact ⟨rfl, rfl⟩

set_option maxRecDepth 100000 in
theorem held18_any (id p : ByteArray) (w : World) (hp : p.size ≤ 1048576) (hi : id.size ≤ 1048576) : Calls Try.prog 18 #[.string id, .string p] w fun e w' => e = .returned (.string (sHeld id p)) ∧ w' = w := by
  go_enter Try.func18, Try.ntmps18
  go_wp2_with fail
  refine (held_any id p _ hp hi).mono ?_
  rintro e w' ⟨rfl, hw⟩
  rw [hw]
  clear hw w'
  go_wp2_with fail
  go_ret
  exact ⟨rfl, rfl⟩
end Go.Proofs.Qxb6605274a
