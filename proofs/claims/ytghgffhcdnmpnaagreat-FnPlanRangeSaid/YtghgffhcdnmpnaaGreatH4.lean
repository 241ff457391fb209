/-
  The partitioners, made anew; the one by murmur2. Conditions: keys of 100 bytes at most, 1 to 2147483647 partitions.
-/
import Derived.Test.YtghgffhcdnmpnaaGreatH3
namespace Go.Proofs.YtghgffhcdnmpnaaGreat
open Go.RowKit
set_option maxRecDepth 100000 in
set_option maxHeartbeats 1600000 in
theorem mur_any (rv : Value) (bm : Nat) (A : Option Addr) (c : Nat) (key : List Int) (part n : Int) (w : World) (hm : w.heap[bm]? = some (msgObj A key.length c part)) (hkey : SlIs w 1 A key.length (bytesV key)) (hc : key.length ≤ c) (hk : isKey key) (hn : 1 ≤ n) :
    Calls Tryz.prog 139 #[rv, .pointer (some ⟨bm, 0, none⟩), .int .i32 n] w fun e w' => e = .returned (.tuple #[.int .i32 (ansOf 3 key part n), .nilIface]) ∧ Kept [] w w' := by
  have h3 : w.cell? ⟨bm, 1, none⟩ = some (.iface 56 (.slice A key.length c)) := by simp [World.cell?, hm, msgObj]
  have hmE : ∀ (rv : Value) (w : World), (method 518 56 rv "Encode").run Tryz.prog w = .ok (301, rv) w := fun _ _ => by kernel_rfl
  have HE := Lib.hid encode_any
  have HM := Lib.hid (murmurC_any A c key w hkey hc hk.1 hk.2)
  obtain ⟨f0, f1⟩ := murL_in key
  obtain ⟨x, hx⟩ : ∃ x, murL key = x := ⟨_, rfl⟩
  rw [hx] at HM f0 f1
  have HX := Lib.hid hx
  have HT := Lib.hid (and_mod x n f0 f1 hn)
  clear hm hkey hx hk hc
  go_enter Tryz.func139, Tryz.ntmps139
  go_wp2_with (first | (with_reducible refine (HE.out _ _).mono ?_; rintro e w1 ⟨rfl, rfl⟩) | (with_reducible refine HM.out.mono ?_; rintro e w1 ⟨rfl, hk1⟩; have HK1 := Lib.hid hk1; clear hk1))
  go_ret2
  refine ⟨tup32 ?_, HK1.out⟩
  rw [HT.out, ansOf, HX.out]
def madeW (w : World) (r u : Bool) (s k : Int) : World := (w.alloc (hashObj (w.heap.size + 1) r u)).alloc (sumObj s k)
theorem newHash0 (v : Value) (w : World) : Calls Tryz.prog 53 #[v] w fun e w' => e = .returned (.iface 113 (.pointer (some ⟨w.heap.size, 0, none⟩))) ∧ w' = madeW w false false 2166136261 0 := by
  go_enter Tryz.func53, Tryz.ntmps53
  go_wp2
  go_ret
  exact ⟨rfl, rfl⟩
theorem newHash1 (v : Value) (w : World) : Calls Tryz.prog 54 #[v] w fun e w' => e = .returned (.iface 113 (.pointer (some ⟨w.heap.size, 0, none⟩))) ∧ w' = madeW w true false 2166136261 0 := by
  go_enter Tryz.func54, Tryz.ntmps54
  go_wp2
  go_ret
  exact ⟨rfl, rfl⟩
theorem newHash2 (v : Value) (w : World) : Calls Tryz.prog 55 #[v] w fun e w' => e = .returned (.iface 113 (.pointer (some ⟨w.heap.size, 0, none⟩))) ∧ w' = madeW w false true 0 1 := by
  go_enter Tryz.func55, Tryz.ntmps55
  go_wp2
  go_ret
  exact ⟨rfl, rfl⟩
theorem made0 (w : World) : Calls Tryz.prog 31 #[.int .i64 0] w fun e w' => e = .returned (.iface 113 (.pointer (some ⟨w.heap.size, 0, none⟩))) ∧ w' = madeW w false false 2166136261 0 := by
  have H := Lib.hid (fun v => newHash0 v w)
  go_enter Tryz.func31, Tryz.ntmps31
  go_wp2_with (with_reducible refine (H.out _).mono ?_; rintro e w1 ⟨rfl, rfl⟩)
  go_ret
  exact ⟨rfl, rfl⟩
theorem made1 (w : World) : Calls Tryz.prog 31 #[.int .i64 1] w fun e w' => e = .returned (.iface 113 (.pointer (some ⟨w.heap.size, 0, none⟩))) ∧ w' = madeW w true false 2166136261 0 := by
  have H := Lib.hid (fun v => newHash1 v w)
  go_enter Tryz.func31, Tryz.ntmps31
  go_wp2_with (with_reducible refine (H.out _).mono ?_; rintro e w1 ⟨rfl, rfl⟩)
  go_ret
  exact ⟨rfl, rfl⟩
theorem made2 (w : World) : Calls Tryz.prog 31 #[.int .i64 2] w fun e w' => e = .returned (.iface 113 (.pointer (some ⟨w.heap.size, 0, none⟩))) ∧ w' = madeW w false true 0 1 := by
  have H := Lib.hid (fun v => newHash2 v w)
  go_enter Tryz.func31, Tryz.ntmps31
  go_wp2_with (with_reducible refine (H.out _).mono ?_; rintro e w1 ⟨rfl, rfl⟩)
  go_ret
  exact ⟨rfl, rfl⟩
theorem newMur (v : Value) (w : World) : Calls Tryz.prog 56 #[v] w fun e w' => e = .returned (.iface 119 (.pointer (some ⟨w.heap.size, 0, none⟩))) ∧ Kept [] w w' := by
  go_enter Tryz.func56, Tryz.ntmps56
  go_wp2
  go_ret
  exact ⟨rfl, (Kept.refl _ _).alloc _⟩
theorem made3 (w : World) : Calls Tryz.prog 31 #[.int .i64 3] w fun e w' => e = .returned (.iface 119 (.pointer (some ⟨w.heap.size, 0, none⟩))) ∧ Kept [] w w' := by
  have H := Lib.hid (fun v => newMur v w)
  go_enter Tryz.func31, Tryz.ntmps31
  go_wp2_with (with_reducible refine (H.out _).mono ?_; rintro e w1 ⟨rfl, hk1⟩; have HK1 := Lib.hid hk1; clear hk1)
  go_ret
  exact ⟨rfl, HK1.out⟩
end Go.Proofs.YtghgffhcdnmpnaaGreat
