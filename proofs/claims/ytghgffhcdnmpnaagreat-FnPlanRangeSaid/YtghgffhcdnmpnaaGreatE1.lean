/-
  Small functions of the laws and the specification: word, wants, the bounds on sizes. Conditions: texts and lists fit the model's room.
-/
import Derived.Test.YtghgffhcdnmpnaaGreatP1
import Derived.Deep.QuietTactic
import Derived.BigQuiet
import Derived.WalkLawsBesides
namespace Go.Proofs.YtghgffhcdnmpnaaGreat
open Go.RowKit Go.Sort
theorem ret_bool {a b : Bool} (h : a = b) : Ending.returned (.bool a) = .returned (.bool b) := by rw [h]
/-! ### Texts -/
def letter (c : UInt8) : Bool := decide (97 ≤ (c.toNat : Int)) && decide ((c.toNat : Int) ≤ 122)
def wordB (s : ByteArray) : Bool := s.data.toList.all letter && decide (0 < s.size) && decide (s.size ≤ 20)
theorem all_take (p : UInt8 → Bool) (s : ByteArray) (k : Nat) (h : k < s.size) : (s.data.toList.take (k + 1)).all p = ((s.data.toList.take k).all p && p s[k]) := by
  rw [List.take_succ_eq_append_getElem (by simpa using h), List.all_append]
  simp
  rfl
theorem all_false {p : UInt8 → Bool} {s : ByteArray} {k : Nat} (h : k < s.size) (hp : p s[k] = false) : s.data.toList.all p = false := by
  rw [List.all_eq_false]
  exact ⟨s[k], by rw [Array.mem_toList_iff]; exact Array.getElem_mem (xs := s.data) h, by simp [hp]⟩
theorem word_any (s : ByteArray) (w : World) (hs : s.size ≤ maxLen) : Calls Tryz.prog 38 #[.string s] w fun e w' => e = .returned (.bool (wordB s)) ∧ w = w' := by
  unfold maxLen at hs
  go_enter Tryz.func38, Tryz.ntmps38
  go_wp2
  go_loop [3] (fun i => ∃ k : Nat, k ≤ s.size ∧ i = .int .i64 k ∧ (s.data.toList.take k).all letter = true) (fun i => s.size - (intOf i).toNat)
  case atStart => exact ⟨0, Nat.zero_le _, rfl, rfl⟩
  case round =>
    obtain ⟨k, hk, rfl, hall⟩ := hrel
    have HALL := Lib.hid hall
    clear hall
    by_cases hlt : k < s.size
    · by_cases h1 : 97 ≤ (s[k].toNat : Int)
      · by_cases h2 : (s[k].toNat : Int) ≤ 122
        · go_wp2
          go_round
          case rel => exact ⟨k + 1, by omega, by go_num, by rw [all_take _ _ _ hlt, HALL.out]; simp [letter, h1, h2]⟩
          case measure => simp [intOf]; omega
        · have HF := Lib.hid (all_false (p := letter) hlt (by simp [letter, h2]))
          go_wp2
          go_ret
          exact ⟨ret_bool (by rw [wordB, HF.out]; rfl), rfl⟩
      · have HF := Lib.hid (all_false (p := letter) hlt (by simp [letter, h1]))
        go_wp2
        go_ret
        exact ⟨ret_bool (by rw [wordB, HF.out]; rfl), rfl⟩
    · have hf : s.data.toList.all letter = true := by
        have := HALL.out
        rwa [List.take_of_length_le (by simp; omega)] at this
      by_cases h1 : 0 < s.size
      · by_cases h2 : s.size ≤ 20
        · have HF := Lib.hid (show wordB s = true by rw [wordB, hf]; simp [h1, h2])
          have h3 : (s.size : Int) ≤ 20 := by omega
          have hd := decide_eq_true h3
          clear hf
          go_wp2
          go_ret
          exact ⟨ret_bool HF.out.symm, rfl⟩
        · have HF := Lib.hid (show wordB s = false by rw [wordB, hf]; simp [h2])
          have h3 : ¬ (s.size : Int) ≤ 20 := by omega
          have hd := decide_eq_false h3
          clear hf
          go_wp2
          go_ret
          exact ⟨ret_bool HF.out.symm, rfl⟩
      · have HF := Lib.hid (show wordB s = false by rw [wordB, hf]; simp [h1])
        clear hf
        go_wp2
        go_ret
        exact ⟨ret_bool HF.out.symm, rfl⟩
end Go.Proofs.YtghgffhcdnmpnaaGreat
