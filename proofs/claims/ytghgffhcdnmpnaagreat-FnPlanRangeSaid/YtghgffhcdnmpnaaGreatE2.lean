/-
  wants: whether a member has subscribed to a topic; the bounds on sizes (zzFits..), whatever they say. Conditions: none.
-/
import Derived.Test.YtghgffhcdnmpnaaGreatE1
namespace Go.Proofs.YtghgffhcdnmpnaaGreat
open Go.RowKit Go.Sort
theorem strs_get {l : List ByteArray} {k : Nat} {y : ByteArray} (h : l[k]? = some y) : (strs l)[k]? = some (.string y) := by simp [strs, h]
theorem beq_ne {a b : ByteArray} (h : a ≠ b) : (a.toList == b.toList) = false := by
  rw [ByteArray.toList_eq, ByteArray.toList_eq]
  rw [beq_eq_false_iff_ne]
  exact fun e => h (bytes_ext e)
set_option maxHeartbeats 400000 in
theorem wants_any (id rack t : ByteArray) (ver gen : Int) (A : Option Addr) (c : Nat) (tops : List ByteArray) (dv ov : Value) (hr : Bool) (w : World) (h : SlIs w 1 A tops.length (strs tops)) :
    Calls Tryz.prog 39 #[.agg #[.string id, .int .i16 ver, .slice A tops.length c, dv, ov, .int .i32 gen, .string rack, .bool hr], .string t] w fun e w' => e = .returned (.bool (decide (t ∈ tops))) ∧ Kept [] w w' := by
  have h63 := h.2.1
  have HS := Lib.hid h
  clear h
  go_enter Tryz.func39, Tryz.ntmps39
  go_wp2
  go_loop [5] (fun i => ∃ k : Nat, k ≤ tops.length ∧ i = .int .i64 k ∧ t ∉ tops.take k) (fun i => tops.length - (intOf i).toNat)
  case atStart => exact ⟨0, Nat.zero_le _, rfl, by simp⟩
  case round =>
    obtain ⟨k, hk, rfl, hn⟩ := hrel
    have HN := Lib.hid hn
    clear hn
    by_cases hlt : k < tops.length
    · obtain ⟨b, off, rfl, hcc⟩ := HS.out.2.2 (by omega)
      obtain ⟨y, hy⟩ : ∃ y, tops[k]? = some y := ⟨_, List.getElem?_eq_getElem hlt⟩
      have hcell := hcc k _ (strs_get hy)
      have hbl : b < w.heap.size := World.block_lt_of_cell? _ _ hcell
      have HY := Lib.hid hy
      clear hcc hy
      by_cases he : y = t
      · subst he
        go_wp2
        go_ret
        exact ⟨ret_bool (by rw [decide_eq_true (List.mem_of_getElem? HY.out)]), (Kept.refl _ _).alloc _⟩
      · have hbe := beq_ne he
        have HE := Lib.hid he
        clear he
        go_wp2
        go_round
        case rel =>
          refine ⟨k + 1, by omega, by go_num, ?_⟩
          rw [take_one HY.out, List.mem_append, List.mem_singleton]
          rintro (h | h)
          · exact HN.out h
          · exact HE.out h.symm
        case measure => simp [intOf]; omega
    · go_wp2
      go_ret
      have h := HN.out
      rw [List.take_of_length_le (by omega)] at h
      exact ⟨ret_bool (by rw [decide_eq_false h]), (Kept.refl _ _).alloc _⟩
/-! ### Sizes -/
def SomeB (w : World) (e : Ending) (w' : World) : Prop := ∃ b : Bool, e = .returned (.bool b) ∧ Kept [] w w'
theorem fits4_any (A : Option Addr) (c : Nat) (l : List ByteArray) (w : World) (h : SlIs w 1 A l.length (strs l)) : Calls Tryz.prog 58 #[.slice A l.length c] w (SomeB w) := by
  have h63 := h.2.1
  have HS := Lib.hid h
  clear h
  go_enter Tryz.func58, Tryz.ntmps58
  go_wp2
  · go_ret
    exact ⟨_, rfl, Kept.refl _ _⟩
  · go_loop [10] (fun i => ∃ k : Nat, k ≤ l.length ∧ i = .int .i64 k) (fun i => l.length - (intOf i).toNat)
    case atStart => exact ⟨0, Nat.zero_le _, rfl⟩
    case round =>
      obtain ⟨k, hk, rfl⟩ := hrel
      by_cases hlt : k < l.length
      · obtain ⟨b, off, rfl, hcc⟩ := HS.out.2.2 (by omega)
        obtain ⟨y, hy⟩ : ∃ y, l[k]? = some y := ⟨_, List.getElem?_eq_getElem hlt⟩
        have hcell := hcc k _ (strs_get hy)
        clear hcc hy
        go_wp2
        · go_ret
          exact ⟨_, rfl, Kept.refl _ _⟩
        · go_round
          case rel => exact ⟨k + 1, by omega, by go_num⟩
          case measure => simp [intOf]; omega
      · go_wp2
        go_ret
        exact ⟨_, rfl, Kept.refl _ _⟩
theorem fits6_any (a b : ByteArray) (A : Option Addr) (n c : Nat) (w : World) : Calls Tryz.prog 36 #[.agg #[.string a, .string b, .slice A n c]] w (SomeB w) := by
  go_enter Tryz.func36, Tryz.ntmps36
  go_wp2
  all_goals go_ret
  all_goals exact ⟨_, rfl, (Kept.refl _ _).alloc _⟩
end Go.Proofs.YtghgffhcdnmpnaaGreat
