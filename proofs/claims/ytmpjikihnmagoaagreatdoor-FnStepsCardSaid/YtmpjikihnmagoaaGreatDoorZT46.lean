/-
  Whether a datum is right (43), by kinds. Conditions: none beyond each lemma's own.
-/
import Derived.Test.YtmpjikihnmagoaaGreatDoorZT44
set_option maxRecDepth 100000
set_option maxHeartbeats 40000000
namespace Go.Proofs.YtmpjikihnmagoaaGreatDoor
open Go.RowKit
theorem sr_ta (ki : Int) (hki : ki = 10 ∨ ki = 11 ∨ ki = 12) (n : Int) (s : ByteArray) (A1 A2 A3 : Option Addr) (n1 n2 n3 c1 c2 c3 : Nat) (texts : List ByteArray) (nums : List Int) (w : World) (ht : texts.length = n2) (hn : nums.length = n3) (hT : SlIs w 1 A2 n2 (strs texts)) (hN : SlIs w 1 A3 n3 (nums.map (Value.int .i64))) : Calls Tryz.prog 43 #[.agg #[.int .i64 ki, .int .i64 n, .string s, .bool true, .slice A1 n1 c1, .slice A2 n2 c2, .slice A3 n3 c3]] w (TellB (RightK ki n s true n1 n2 n3 texts nums) w):=by
 obtain ⟨q, hq⟩ : ∃ q : Int, q = ki:=⟨_, rfl⟩
 rcases hki with rfl | rfl | rfl
 all_goals (
   have HF:=lh (fun W x => fits72_32 W x)
   have HF8:=lh (fun W x => fits72_8 W x)
   have HF16:=lh (fun W x => fits72_16 W x)
   have HT:=lh hT
   have HN:=lh hN
   have HTL:=lh ht
   have HNL:=lh hn
   have HSE : Hid (s.toList = [] ↔ s.size = 0):=lh (tl_size s)
   clear hT hN ht hn
   rcases Nat.eq_zero_or_pos n1 with h0 | h0
   rotate_left
   ·go_enter Tryz.func43, Tryz.ntmps43
    go_wp2
    all_goals (go_ret; exact ⟨false, rfl, (fun hb => by cases hb), (Kept.refl [] w).alloc _⟩)
   subst h0
   go_enter Tryz.func43, Tryz.ntmps43
   go_wp2
   all_goals (first | (go_ret; exact ⟨false, rfl, (fun hb => by cases hb), (Kept.refl [] w).alloc _⟩) | skip)
   obtain ⟨W0, hW0⟩ : ∃ W0, w.alloc (.cells #[.int .i64 q, .int .i64 n, .string s, .bool true, .slice A1 0 c1, .slice A2 n2 c2, .slice A3 n3 c3] 46) = W0:=⟨_, rfl⟩
   have hk0 : Kept [] w W0:=by rw [← hW0]; exact (Kept.refl [] w).alloc _
   have hcs : ∀ j v, [.int .i64 q, .int .i64 n, .string s, .bool true, .slice A1 0 c1, .slice A2 n2 c2, .slice A3 n3 c3][j]? = some v → W0.cell? ⟨w.heap.size, j, none⟩ = some v:=fun j v hv => by
    rw [← hW0]
    have h1:=new_cells w [.int .i64 q, .int .i64 n, .string s, .bool true, .slice A1 0 c1, .slice A2 n2 c2, .slice A3 n3 c3] 46 j v hv
    rw [Nat.zero_add] at h1
    exact h1
   subst hq
   rw [hW0]
   have HK0:=lh hk0
   have HCS:=lh hcs
   clear hW0 hk0 hcs
   go_loopw [69] (fun iv wr => ∃ j : Nat, j ≤ n2 ∧ iv = .int .i64 j ∧ (∀ t ∈ texts.take j, t.size ≤ 60) ∧ Kept [] W0 wr) (fun iv _ => n2 - (intOf iv).toNat)
   case atStart => exact ⟨0, Nat.zero_le _, rfl, by simp, Kept.refl _ _⟩
   case round =>
    obtain ⟨j, hj, rfl, h60, hkr⟩:=hrel
    have H60:=lh h60
    have HKR:=lh hkr
    clear h60 hkr
    by_cases hlt : j < n2
    ·obtain ⟨b3, off3, hAe, hcc⟩:=HT.out.2.2 (by omega)
     obtain ⟨y, hy⟩ : ∃ y, texts[j]? = some y:=⟨_, List.getElem?_eq_getElem (by rw [HTL.out]; exact hlt)⟩
     subst hAe
     have hcell : wr.cell? ⟨b3, off3 + j, none⟩ = some (.string y):=(HK0.out.trans0 HKR.out).cell (hcc j _ (strs_at hy)) (by simp)
     have HTK:=lh (take_one hy)
     clear hcc hy
     by_cases hys : 60 < y.size
     ·go_wp2
      go_ret
      exact ⟨false, rfl, (fun hb => by cases hb), HK0.out.trans0 HKR.out⟩
     ·go_wp2
      go_roundw
      case rel =>
       refine ⟨j + 1, by omega, by go_num, fun t ht => ?_, HKR.out⟩
       rw [HTK.out] at ht
       rcases List.mem_append.1 ht with h | h
       ·exact H60.out t h
       ·rw [List.mem_singleton.1 h]; omega
      case measure => (simp [intOf]) <;> omega
    ·have e : texts.take j = texts:=List.take_of_length_le (by rw [HTL.out]; omega)
     rw [e] at H60
     have hc6 : wr.cell? ⟨w.heap.size, 6, none⟩ = _:=HKR.out.cell (HCS.out 6 _ rfl) (by simp)
     clear e
     go_wp2
     obtain ⟨W1, hW1⟩ : ∃ W1, W1 = wr:=⟨_, rfl⟩
     rw [← hW1] at HKR ⊢
     clear hW1 hc6
     clear wr
     go_loopw [80] (fun iv wr => ∃ j : Nat, j ≤ n3 ∧ iv = .int .i64 j ∧ Kept [] W0 wr) (fun iv _ => n3 - (intOf iv).toNat)
     case atStart => exact ⟨0, Nat.zero_le _, rfl, HKR.out⟩
     case round =>
      obtain ⟨j, hj, rfl, hkr⟩:=hrel
      have HKR2:=lh hkr
      have hc0 : wr.cell? ⟨w.heap.size, 0, none⟩ = _:=hkr.cell (HCS.out 0 _ rfl) (by simp)
      clear hkr
      by_cases hlt : j < n3
      ·obtain ⟨b3, off3, hAe, hcc⟩:=HN.out.2.2 (by omega)
       obtain ⟨y, hy⟩ : ∃ y, nums[j]? = some y:=⟨_, List.getElem?_eq_getElem (by rw [HNL.out]; exact hlt)⟩
       subst hAe
       have hcell : wr.cell? ⟨b3, off3 + j, none⟩ = some (.int .i64 y):=(HK0.out.trans0 HKR2.out).cell (hcc j _ (by simp [hy])) (by simp)
       have HTK:=lh (take_one hy)
       clear hcc hy
       go_wp2
       go_roundw
       case rel => exact ⟨j + 1, by omega, by go_num, HKR2.out⟩
       case measure => (simp [intOf]) <;> omega
      ·have e : nums.take j = nums:=List.take_of_length_le (by rw [HNL.out]; omega)
       have hc1 : wr.cell? ⟨w.heap.size, 1, none⟩ = _:=HKR2.out.cell (HCS.out 1 _ rfl) (by simp)
       have hc2 : wr.cell? ⟨w.heap.size, 2, none⟩ = _:=HKR2.out.cell (HCS.out 2 _ rfl) (by simp)
       have hc4 : wr.cell? ⟨w.heap.size, 4, none⟩ = _:=HKR2.out.cell (HCS.out 4 _ rfl) (by simp)
       have hc5 : wr.cell? ⟨w.heap.size, 5, none⟩ = _:=HKR2.out.cell (HCS.out 5 _ rfl) (by simp)
       have hc6 : wr.cell? ⟨w.heap.size, 6, none⟩ = _:=HKR2.out.cell (HCS.out 6 _ rfl) (by simp)
       clear e
       go_wp2_with (first
        | ((with_reducible refine (HF8.out _ _).mono ?_); rintro e w5 ⟨b5, rfl, hb5, hk5⟩; have HB5:=lh hb5; have HK5:=lh hk5; clear hb5 hk5)
        | ((with_reducible refine (HF16.out _ _).mono ?_); rintro e w5 ⟨b5, rfl, hb5, hk5⟩; have HB5:=lh hb5; have HK5:=lh hk5; clear hb5 hk5)
        | ((with_reducible refine (HF.out _ _).mono ?_); rintro e w5 ⟨b5, rfl, hb5, hk5⟩; have HB5:=lh hb5; have HK5:=lh hk5; clear hb5 hk5))
       all_goals go_ret
       all_goals (refine ⟨_, rfl, (fun hb => ?_), ?_⟩)
       all_goals (first
        | exact HK0.out.trans0 HKR2.out
        | exact (HK0.out.trans0 HKR2.out).trans0 HK5.out
        | (exfalso; exact absurd hb (by decide))
        | skip)
       all_goals (rename _ = true => hb)
       all_goals (simp only [HSE.out] at *)
       all_goals (exact ⟨by omega, by omega, (fun _ => ⟨by omega, by omega, by omega⟩), by omega, by omega, by omega, by omega, H60.out, (fun h => absurd h (by omega)), by omega, by omega, by omega, by omega, by omega, (by first | exact (fun h => absurd h (by omega)) | exact (fun _ => HB5.out hb)), (by first | exact (fun h => absurd h (by omega)) | exact (fun _ => HB5.out hb)), (by first | exact (fun h => absurd h (by omega)) | exact (fun _ => HB5.out hb)), by omega, (by first | omega | (exfalso; revert hb; simp; done) | (exfalso; revert hb; simp; omega) | (trace_state; omega))⟩))
theorem sr_other (ki n : Int) (s : ByteArray) (A1 A2 A3 : Option Addr) (n1 n2 n3 c1 c2 c3 : Nat) (w : World) (p : Prop) (h10 : ¬ ki = 10) (h11 : ¬ ki = 11) (h12 : ¬ ki = 12) : Calls Tryz.prog 43 #[.agg #[.int .i64 ki, .int .i64 n, .string s, .bool true, .slice A1 n1 c1, .slice A2 n2 c2, .slice A3 n3 c3]] w (TellB p w):=by
 go_enter Tryz.func43, Tryz.ntmps43
 go_wp2
 go_ret
 exact ⟨false, rfl, (fun hb => by cases hb), (Kept.refl [] w).alloc _⟩
end Go.Proofs.YtmpjikihnmagoaaGreatDoor
