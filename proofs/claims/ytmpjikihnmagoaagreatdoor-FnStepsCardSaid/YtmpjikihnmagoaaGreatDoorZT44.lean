/-
  Whether a datum is right (72, 43), whether data are (17): where yes, they are. Conditions: none beyond each lemma's own.
-/
import Derived.Test.YtmpjikihnmagoaaGreatDoorZT42
set_option maxRecDepth 100000
set_option maxHeartbeats 6400000
namespace Go.Proofs.YtmpjikihnmagoaaGreatDoor
open Go.RowKit
/-- A truth value that tells. -/
def TellB (p : Prop) (w : World) (e : Ending) (w' : World) : Prop:=∃ b, e = .returned (.bool b) ∧ (b = true → p) ∧ Kept [] w w'
theorem fits72_8 (w : World) (x : Int) : Calls Tryz.prog 72 #[.int .i64 x, .int .i64 8] w (TellB (fitsB 8 x) w):=by
 go_enter Tryz.func72, Tryz.ntmps72
 by_cases h1 : -128 ≤ x
 ·by_cases h2 : x < 128
  ·go_wp2
   go_ret
   exact ⟨_, rfl, fun _ => by simp only [fitsB]; omega, Kept.refl _ _⟩
  ·go_wp2
   go_ret
   exact ⟨_, rfl, fun hb => by simp at hb, Kept.refl _ _⟩
 ·go_wp2
  go_ret
  exact ⟨_, rfl, fun hb => by simp at hb, Kept.refl _ _⟩
theorem fits72_16 (w : World) (x : Int) : Calls Tryz.prog 72 #[.int .i64 x, .int .i64 16] w (TellB (fitsB 16 x) w):=by
 go_enter Tryz.func72, Tryz.ntmps72
 by_cases h1 : -32768 ≤ x
 ·by_cases h2 : x < 32768
  ·go_wp2
   go_ret
   exact ⟨_, rfl, fun _ => by simp only [fitsB]; omega, Kept.refl _ _⟩
  ·go_wp2
   go_ret
   exact ⟨_, rfl, fun hb => by simp at hb, Kept.refl _ _⟩
 ·go_wp2
  go_ret
  exact ⟨_, rfl, fun hb => by simp at hb, Kept.refl _ _⟩
theorem fits72_32 (w : World) (x : Int) : Calls Tryz.prog 72 #[.int .i64 x, .int .i64 32] w (TellB (fitsB 32 x) w):=by
 go_enter Tryz.func72, Tryz.ntmps72
 by_cases h1 : -2147483648 ≤ x
 ·by_cases h2 : x < 2147483648
  ·go_wp2
   go_ret
   exact ⟨_, rfl, fun _ => by simp only [fitsB]; omega, Kept.refl _ _⟩
  ·go_wp2
   go_ret
   exact ⟨_, rfl, fun hb => by simp at hb, Kept.refl _ _⟩
 ·go_wp2
  go_ret
  exact ⟨_, rfl, fun hb => by simp at hb, Kept.refl _ _⟩
theorem tl_size (s : ByteArray) : s.toList = [] ↔ s.size = 0:=by
 rw [ByteArray.toList_eq, ← List.length_eq_zero_iff]
 exact Iff.rfl
/-- What a right datum is, by its kind as it stands. -/
structure RightK (ki n : Int) (s : ByteArray) (null : Bool) (n1 n2 n3 : Nat) (texts : List ByteArray) (nums : List Int) : Prop where
 k0 : 0 ≤ ki
 k16 : ki ≤ 16
 null : null = true → (ki = 10 ∨ ki = 11 ∨ ki = 12) ∧ s.size = 0 ∧ n1 = 0
 s200 : s.size ≤ 200
 b300 : n1 ≤ 300
 t10 : n2 ≤ 10
 n10 : n3 ≤ 10
 t60 : ∀ t ∈ texts, t.size ≤ 60
 n32 : ki = 14 → ∀ v ∈ nums, fitsB 32 v
 num : 8 < ki → n = 0
 text : ki ≠ 9 → ki ≠ 10 → s.size = 0
 bytes : ki ≠ 11 → ki ≠ 12 → ki ≠ 16 → n1 = 0
 texts : ki ≠ 13 → n2 = 0
 nums : ki ≠ 14 → ki ≠ 15 → n3 = 0
 f8 : ki = 0 → fitsB 8 n
 f16 : ki = 1 → fitsB 16 n
 f32 : ki = 2 → fitsB 32 n
 bool : ki = 7 → n = 0 ∨ n = 1
 arr : ki = 8 → 0 ≤ n ∧ n ≤ 1000
end Go.Proofs.YtmpjikihnmagoaaGreatDoor
