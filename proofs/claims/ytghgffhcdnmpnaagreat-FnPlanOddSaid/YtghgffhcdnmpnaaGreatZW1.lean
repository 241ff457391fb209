/-
  The digits of a number (183), as far as a walk needs them that does not know the table of powers: a row of bytes is written. Conditions: a number below 2^31; a row of bytes, fifty at most.
-/
import Derived.Test.YtghgffhcdnmpnaaGreatZShelf
import Derived.Test.YtghgffhcdnmpnaaGreatZB0
import Derived.Shelf.LaysM
import Derived.Shelf.RegionOpenPlain
import Derived.Lib.Walk
import Derived.Lib.ItoaWalk
import Derived.WalkKit
import Derived.RegionTactic
import Derived.BigCall
import Derived.BigGuard
import Derived.CellFam
import Derived.Test.YtghgffhcdnmpnaaGreatZL1
import Derived.Lib.ItoaMem
import Derived.Lib.ItoaNum
import Derived.Laws.IdiomStrings
import Derived.Laws.Slices
namespace Go.Proofs.YtghgffhcdnmpnaaGreat
open Go.RowKit Go.Sort
/-- A byte as it lies in memory. -/
abbrev bV : UInt8 → Value := fun b => .int .u8 (b.toNat : Int)
/-- The row has its length, the number is not too great. -/
structure FW (n v : Nat) (dk : Array UInt8) : Prop where
  size : dk.size = n
  small : v ≤ 2147483647
theorem FW.step2 {n v i j : Nat} {dk : Array UInt8} {x y : UInt8} (h : FW n v dk) : FW n (v / 100) ((dk.setIfInBounds i x).setIfInBounds j y) :=
  ⟨by simp [h.size], Nat.le_trans (Nat.div_le_self _ _) h.small⟩
set_option maxHeartbeats 12800000 in
set_option maxRecDepth 100000 in
theorem fmt_weak (blk off cap n u : Nat) (d : Array UInt8) (w : World) (hd : d.size = n) (hH : Holds bV w blk off d) (hu : u ≤ 2147483647) (hn : n ≤ 50) :
    Calls Tryz.prog 183 #[.slice (some ⟨blk, off, none⟩) n cap, .int .u64 u] w fun e w' => e = .returned (.tuple #[]) ∧ ∃ (k : Nat) (dk : Array UInt8), w' = (putRow bV w blk off dk).drewN k ∧ dk.size = n := by
  have mixed := Tryz.lays285.mixed
  go_enter Tryz.func183, Tryz.ntmps183
  go_name_bytes SM hSM
  have eSM : SM = Lib.smalls := by rw [← hSM]; decide +kernel
  subst eSM
  clear hSM
  go_wp2
  go_loopw [1, 4] (fun vu vn wr => ∃ (nd v q : Nat) (dk : Array UInt8), vu = .int .u64 v ∧ vn = .int .i64 nd ∧ wr = (putRow bV w blk off dk).drewN q ∧ nd ≤ n ∧ Hid (FW n v dk)) (fun _ vn _ => (RowKit.intOf vn).toNat)
  case atStart => exact ⟨n, u, 0, d, rfl, rfl, (putRow_self _ _ _ _ _ hH).symm, Nat.le_refl _, ⟨hd, hu⟩⟩
  case round =>
    obtain ⟨nd, v, q0, dk0, rfl, rfl, hw0, hnd, HI0⟩ := hrel
    rename World => W0
    have AH := Lib.hid hH
    clear hH hu
    have hH0 : Holds bV W0 blk off dk0 := by rw [hw0]; exact holds_putRow _ w blk off d dk0 AH.out (HI0.out.size.trans hd.symm)
    have hs0 := HI0.out.size
    have hv0 := HI0.out.small
    obtain ⟨G0, hG0⟩ : ∃ G : Nat → Int, ∀ t, G t = (dk0[t]!.toNat : Int) := ⟨_, fun _ => rfl⟩
    have hc0 : ∀ t, t < n → W0.cell? ⟨blk, off + t, none⟩ = some (.int .u8 (G0 t)) := fun t ht => by rw [hG0]; exact (hH0 t (by omega)).1
    have hf0 : ∀ t, t < n → W0.frozen? ⟨blk, off + t, none⟩ = false := fun t ht => (hH0 t (by omega)).2
    have AW0 := Lib.hid hw0
    clear hw0 hG0 hH0 hs0
    by_cases h8 : 8 ≤ nd
    · obtain ⟨m, rfl⟩ : ∃ m, nd = m + 8 := ⟨nd - 8, by omega⟩
      go_wp2
      have hle0 := HI0.out.size
      go_name_slot 9 x0 hx0
      have hxe0 : x0 = ((v % 100 * 2 : Nat) : Int) := by omega
      have hXa0 : ∀ w, (Instr.index 9 (.string Lib.smalls) (.int .u32 (x0 + 1))).run Tryz.prog w = .ok (.int .u8 ((Lib.sm (v % 100 * 2 + 1)).toNat : Int)) w := Lib.idx_smalls 9 Tryz.underlying9 .u32 _ _ (by omega) (by omega)
      have hXb0 : ∀ w, (Instr.index 9 (.string Lib.smalls) (.int .u32 x0)).run Tryz.prog w = .ok (.int .u8 ((Lib.sm (v % 100 * 2)).toNat : Int)) w := Lib.idx_smalls 9 Tryz.underlying9 .u32 _ _ (by omega) (by omega)
      have hlo0 : 0 ≤ x0 := by omega
      have hhi0 : x0 ≤ 198 := by omega
      clear hx0 hxe0
      go_region_o
      go_wp2
      go_name_world W1 hW1
      have hw1 : W1 = (putRow bV w blk off ((dk0.setIfInBounds (m + 6 + 1) (Lib.sm (v % 100 * 2 + 1))).setIfInBounds (m + 6) (Lib.sm (v % 100 * 2)))).drewN (q0 + 0 + 1) := by rw [← hW1, AW0.out]; exact Lib.store2_world w blk off dk0 (q0 + 0) (m + 6 + 1) (m + 6) _ _ (by omega) (by omega)
      have HI1 : Hid (FW n (v / 100) ((dk0.setIfInBounds (m + 6 + 1) (Lib.sm (v % 100 * 2 + 1))).setIfInBounds (m + 6) (Lib.sm (v % 100 * 2)))) := FW.step2 HI0.out
      generalize ((dk0.setIfInBounds (m + 6 + 1) (Lib.sm (v % 100 * 2 + 1))).setIfInBounds (m + 6) (Lib.sm (v % 100 * 2))) = dk1 at hw1 HI1
      clear hW1 hc0 hf0 AW0 HI0 hXa0 hXb0 hle0
      have hH1 : Holds bV W1 blk off dk1 := by rw [hw1]; exact holds_putRow _ w blk off d dk1 AH.out (HI1.out.size.trans hd.symm)
      have hs1 := HI1.out.size
      have hv1 := HI1.out.small
      obtain ⟨G1, hG1⟩ : ∃ G : Nat → Int, ∀ t, G t = (dk1[t]!.toNat : Int) := ⟨_, fun _ => rfl⟩
      have hc1 : ∀ t, t < n → W1.cell? ⟨blk, off + t, none⟩ = some (.int .u8 (G1 t)) := fun t ht => by rw [hG1]; exact (hH1 t (by omega)).1
      have hf1 : ∀ t, t < n → W1.frozen? ⟨blk, off + t, none⟩ = false := fun t ht => (hH1 t (by omega)).2
      have AW1 := Lib.hid hw1
      clear hw1 hG1 hH1 hs1
      have hle1 := HI1.out.size
      go_name_slot 8 x1 hx1
      have hxe1 : x1 = ((v / 100 % 100 * 2 : Nat) : Int) := by omega
      have hXa1 : ∀ w, (Instr.index 9 (.string Lib.smalls) (.int .u32 (x1 + 1))).run Tryz.prog w = .ok (.int .u8 ((Lib.sm (v / 100 % 100 * 2 + 1)).toNat : Int)) w := Lib.idx_smalls 9 Tryz.underlying9 .u32 _ _ (by omega) (by omega)
      have hXb1 : ∀ w, (Instr.index 9 (.string Lib.smalls) (.int .u32 x1)).run Tryz.prog w = .ok (.int .u8 ((Lib.sm (v / 100 % 100 * 2)).toNat : Int)) w := Lib.idx_smalls 9 Tryz.underlying9 .u32 _ _ (by omega) (by omega)
      have hlo1 : 0 ≤ x1 := by omega
      have hhi1 : x1 ≤ 198 := by omega
      clear hx1 hxe1
      go_region_o
      go_wp2
      go_name_world W2 hW2
      have hw2 : W2 = (putRow bV w blk off ((dk1.setIfInBounds (m + 4 + 1) (Lib.sm (v / 100 % 100 * 2 + 1))).setIfInBounds (m + 4) (Lib.sm (v / 100 % 100 * 2)))).drewN (q0 + 1 + 1) := by rw [← hW2, AW1.out]; exact Lib.store2_world w blk off dk1 (q0 + 1) (m + 4 + 1) (m + 4) _ _ (by omega) (by omega)
      have HI2 : Hid (FW n (v / 100 / 100) ((dk1.setIfInBounds (m + 4 + 1) (Lib.sm (v / 100 % 100 * 2 + 1))).setIfInBounds (m + 4) (Lib.sm (v / 100 % 100 * 2)))) := FW.step2 HI1.out
      generalize ((dk1.setIfInBounds (m + 4 + 1) (Lib.sm (v / 100 % 100 * 2 + 1))).setIfInBounds (m + 4) (Lib.sm (v / 100 % 100 * 2))) = dk2 at hw2 HI2
      clear hW2 hc1 hf1 AW1 HI1 hXa1 hXb1 hle1
      have hH2 : Holds bV W2 blk off dk2 := by rw [hw2]; exact holds_putRow _ w blk off d dk2 AH.out (HI2.out.size.trans hd.symm)
      have hs2 := HI2.out.size
      have hv2 := HI2.out.small
      obtain ⟨G2, hG2⟩ : ∃ G : Nat → Int, ∀ t, G t = (dk2[t]!.toNat : Int) := ⟨_, fun _ => rfl⟩
      have hc2 : ∀ t, t < n → W2.cell? ⟨blk, off + t, none⟩ = some (.int .u8 (G2 t)) := fun t ht => by rw [hG2]; exact (hH2 t (by omega)).1
      have hf2 : ∀ t, t < n → W2.frozen? ⟨blk, off + t, none⟩ = false := fun t ht => (hH2 t (by omega)).2
      have AW2 := Lib.hid hw2
      clear hw2 hG2 hH2 hs2
      have hle2 := HI2.out.size
      go_name_slot 11 x2 hx2
      have hxe2 : x2 = ((v / 100 / 100 % 100 * 2 : Nat) : Int) := by omega
      have hXa2 : ∀ w, (Instr.index 9 (.string Lib.smalls) (.int .u32 (x2 + 1))).run Tryz.prog w = .ok (.int .u8 ((Lib.sm (v / 100 / 100 % 100 * 2 + 1)).toNat : Int)) w := Lib.idx_smalls 9 Tryz.underlying9 .u32 _ _ (by omega) (by omega)
      have hXb2 : ∀ w, (Instr.index 9 (.string Lib.smalls) (.int .u32 x2)).run Tryz.prog w = .ok (.int .u8 ((Lib.sm (v / 100 / 100 % 100 * 2)).toNat : Int)) w := Lib.idx_smalls 9 Tryz.underlying9 .u32 _ _ (by omega) (by omega)
      have hlo2 : 0 ≤ x2 := by omega
      have hhi2 : x2 ≤ 198 := by omega
      clear hx2 hxe2
      go_region_o
      go_wp2
      go_name_world W3 hW3
      have hw3 : W3 = (putRow bV w blk off ((dk2.setIfInBounds (m + 2 + 1) (Lib.sm (v / 100 / 100 % 100 * 2 + 1))).setIfInBounds (m + 2) (Lib.sm (v / 100 / 100 % 100 * 2)))).drewN (q0 + 2 + 1) := by rw [← hW3, AW2.out]; exact Lib.store2_world w blk off dk2 (q0 + 2) (m + 2 + 1) (m + 2) _ _ (by omega) (by omega)
      have HI3 : Hid (FW n (v / 100 / 100 / 100) ((dk2.setIfInBounds (m + 2 + 1) (Lib.sm (v / 100 / 100 % 100 * 2 + 1))).setIfInBounds (m + 2) (Lib.sm (v / 100 / 100 % 100 * 2)))) := FW.step2 HI2.out
      generalize ((dk2.setIfInBounds (m + 2 + 1) (Lib.sm (v / 100 / 100 % 100 * 2 + 1))).setIfInBounds (m + 2) (Lib.sm (v / 100 / 100 % 100 * 2))) = dk3 at hw3 HI3
      clear hW3 hc2 hf2 AW2 HI2 hXa2 hXb2 hle2
      have hH3 : Holds bV W3 blk off dk3 := by rw [hw3]; exact holds_putRow _ w blk off d dk3 AH.out (HI3.out.size.trans hd.symm)
      have hs3 := HI3.out.size
      have hv3 := HI3.out.small
      obtain ⟨G3, hG3⟩ : ∃ G : Nat → Int, ∀ t, G t = (dk3[t]!.toNat : Int) := ⟨_, fun _ => rfl⟩
      have hc3 : ∀ t, t < n → W3.cell? ⟨blk, off + t, none⟩ = some (.int .u8 (G3 t)) := fun t ht => by rw [hG3]; exact (hH3 t (by omega)).1
      have hf3 : ∀ t, t < n → W3.frozen? ⟨blk, off + t, none⟩ = false := fun t ht => (hH3 t (by omega)).2
      have AW3 := Lib.hid hw3
      clear hw3 hG3 hH3 hs3
      have hle3 := HI3.out.size
      go_name_slot 10 x3 hx3
      have hxe3 : x3 = ((v / 100 / 100 / 100 % 100 * 2 : Nat) : Int) := by omega
      have hXa3 : ∀ w, (Instr.index 9 (.string Lib.smalls) (.int .u32 (x3 + 1))).run Tryz.prog w = .ok (.int .u8 ((Lib.sm (v / 100 / 100 / 100 % 100 * 2 + 1)).toNat : Int)) w := Lib.idx_smalls 9 Tryz.underlying9 .u32 _ _ (by omega) (by omega)
      have hXb3 : ∀ w, (Instr.index 9 (.string Lib.smalls) (.int .u32 x3)).run Tryz.prog w = .ok (.int .u8 ((Lib.sm (v / 100 / 100 / 100 % 100 * 2)).toNat : Int)) w := Lib.idx_smalls 9 Tryz.underlying9 .u32 _ _ (by omega) (by omega)
      have hlo3 : 0 ≤ x3 := by omega
      have hhi3 : x3 ≤ 198 := by omega
      clear hx3 hxe3
      go_region_o
      go_wp2
      go_roundw
      case rel =>
        refine ⟨m, v / 100000000, q0 + 3 + 1, ((dk3.setIfInBounds (m + 1) (Lib.sm (v / 100 / 100 / 100 % 100 * 2 + 1))).setIfInBounds (m) (Lib.sm (v / 100 / 100 / 100 % 100 * 2))), by first | go_num | (congr 1; omega), by first | go_num | (congr 1; omega), by rw [AW3.out]; exact Lib.store2_world w blk off dk3 (q0 + 3) (m + 1) m _ _ (by omega) (by omega), by omega, ?_⟩
        have e : v / 100 / 100 / 100 / 100 = v / 100000000 := by omega
        rw [← e]
        exact FW.step2 HI3.out
      case measure => simp [RowKit.intOf]; omega
    · have hc8 : nd = 0 ∨ nd = 1 ∨ nd = 2 ∨ nd = 3 ∨ nd = 4 ∨ nd = 5 ∨ nd = 6 ∨ nd = 7 := by omega
      rcases hc8 with rfl | rfl | rfl | rfl | rfl | rfl | rfl | rfl
      · -- nd = 0
        go_wp2
        go_end0
        exact ⟨rfl, q0, dk0, AW0.out, HI0.out.size⟩
      · -- nd = 1
        go_wp2
        go_end0
        exact ⟨rfl, q0, _, by rw [AW0.out]; exact Lib.store1_world0 w blk off dk0 q0 _ v (by omega) (by have := HI0.out.size; omega), by simp [HI0.out.size]⟩
      · -- nd = 2
        go_wp2
        have hle0 := HI0.out.size
        go_name_slot 16 x0 hx0
        have hxe0 : x0 = ((v % 100 * 2 : Nat) : Int) := by omega
        have hXa0 : ∀ w, (Instr.index 9 (.string Lib.smalls) (.int .u32 (x0 + 1))).run Tryz.prog w = .ok (.int .u8 ((Lib.sm (v % 100 * 2 + 1)).toNat : Int)) w := Lib.idx_smalls 9 Tryz.underlying9 .u32 _ _ (by omega) (by omega)
        have hXb0 : ∀ w, (Instr.index 9 (.string Lib.smalls) (.int .u32 x0)).run Tryz.prog w = .ok (.int .u8 ((Lib.sm (v % 100 * 2)).toNat : Int)) w := Lib.idx_smalls 9 Tryz.underlying9 .u32 _ _ (by omega) (by omega)
        have hlo0 : 0 ≤ x0 := by omega
        have hhi0 : x0 ≤ 198 := by omega
        clear hx0 hxe0
        go_region_o
        go_wp2
        go_end0
        exact ⟨rfl, q0 + 0 + 1, _, by rw [AW0.out]; exact Lib.store2_world w blk off dk0 (q0 + 0) (0 + 1) (0) _ _ (by omega) (by omega), by simp [HI0.out.size]⟩
      · -- nd = 3
        go_wp2
        have hle0 := HI0.out.size
        go_name_slot 16 x0 hx0
        have hxe0 : x0 = ((v % 100 * 2 : Nat) : Int) := by omega
        have hXa0 : ∀ w, (Instr.index 9 (.string Lib.smalls) (.int .u32 (x0 + 1))).run Tryz.prog w = .ok (.int .u8 ((Lib.sm (v % 100 * 2 + 1)).toNat : Int)) w := Lib.idx_smalls 9 Tryz.underlying9 .u32 _ _ (by omega) (by omega)
        have hXb0 : ∀ w, (Instr.index 9 (.string Lib.smalls) (.int .u32 x0)).run Tryz.prog w = .ok (.int .u8 ((Lib.sm (v % 100 * 2)).toNat : Int)) w := Lib.idx_smalls 9 Tryz.underlying9 .u32 _ _ (by omega) (by omega)
        have hlo0 : 0 ≤ x0 := by omega
        have hhi0 : x0 ≤ 198 := by omega
        clear hx0 hxe0
        go_region_o
        go_wp2
        go_end0
        exact ⟨rfl, q0 + 0 + 1, _, by rw [AW0.out]; exact Lib.store21_world w blk off dk0 (q0 + 0) (1 + 1) (1) _ _ _ (v / 100) (by omega) (by omega) (by omega), by simp [HI0.out.size]⟩
      · -- nd = 4
        go_wp2
        have hle0 := HI0.out.size
        go_name_slot 15 x0 hx0
        have hxe0 : x0 = ((v % 100 * 2 : Nat) : Int) := by omega
        have hXa0 : ∀ w, (Instr.index 9 (.string Lib.smalls) (.int .u32 (x0 + 1))).run Tryz.prog w = .ok (.int .u8 ((Lib.sm (v % 100 * 2 + 1)).toNat : Int)) w := Lib.idx_smalls 9 Tryz.underlying9 .u32 _ _ (by omega) (by omega)
        have hXb0 : ∀ w, (Instr.index 9 (.string Lib.smalls) (.int .u32 x0)).run Tryz.prog w = .ok (.int .u8 ((Lib.sm (v % 100 * 2)).toNat : Int)) w := Lib.idx_smalls 9 Tryz.underlying9 .u32 _ _ (by omega) (by omega)
        have hlo0 : 0 ≤ x0 := by omega
        have hhi0 : x0 ≤ 198 := by omega
        clear hx0 hxe0
        go_region_o
        go_wp2
        go_name_world W1 hW1
        have hw1 : W1 = (putRow bV w blk off ((dk0.setIfInBounds (2 + 1) (Lib.sm (v % 100 * 2 + 1))).setIfInBounds (2) (Lib.sm (v % 100 * 2)))).drewN (q0 + 0 + 1) := by rw [← hW1, AW0.out]; exact Lib.store2_world w blk off dk0 (q0 + 0) (2 + 1) (2) _ _ (by omega) (by omega)
        have HI1 : Hid (FW n (v / 100) ((dk0.setIfInBounds (2 + 1) (Lib.sm (v % 100 * 2 + 1))).setIfInBounds (2) (Lib.sm (v % 100 * 2)))) := FW.step2 HI0.out
        generalize ((dk0.setIfInBounds (2 + 1) (Lib.sm (v % 100 * 2 + 1))).setIfInBounds (2) (Lib.sm (v % 100 * 2))) = dk1 at hw1 HI1
        clear hW1 hc0 hf0 AW0 HI0 hXa0 hXb0 hle0
        have hH1 : Holds bV W1 blk off dk1 := by rw [hw1]; exact holds_putRow _ w blk off d dk1 AH.out (HI1.out.size.trans hd.symm)
        have hs1 := HI1.out.size
        have hv1 := HI1.out.small
        obtain ⟨G1, hG1⟩ : ∃ G : Nat → Int, ∀ t, G t = (dk1[t]!.toNat : Int) := ⟨_, fun _ => rfl⟩
        have hc1 : ∀ t, t < n → W1.cell? ⟨blk, off + t, none⟩ = some (.int .u8 (G1 t)) := fun t ht => by rw [hG1]; exact (hH1 t (by omega)).1
        have hf1 : ∀ t, t < n → W1.frozen? ⟨blk, off + t, none⟩ = false := fun t ht => (hH1 t (by omega)).2
        have AW1 := Lib.hid hw1
        clear hw1 hG1 hH1 hs1
        have hle1 := HI1.out.size
        go_name_slot 14 x1 hx1
        have hxe1 : x1 = ((v / 100 % 100 * 2 : Nat) : Int) := by omega
        have hXa1 : ∀ w, (Instr.index 9 (.string Lib.smalls) (.int .u32 (x1 + 1))).run Tryz.prog w = .ok (.int .u8 ((Lib.sm (v / 100 % 100 * 2 + 1)).toNat : Int)) w := Lib.idx_smalls 9 Tryz.underlying9 .u32 _ _ (by omega) (by omega)
        have hXb1 : ∀ w, (Instr.index 9 (.string Lib.smalls) (.int .u32 x1)).run Tryz.prog w = .ok (.int .u8 ((Lib.sm (v / 100 % 100 * 2)).toNat : Int)) w := Lib.idx_smalls 9 Tryz.underlying9 .u32 _ _ (by omega) (by omega)
        have hlo1 : 0 ≤ x1 := by omega
        have hhi1 : x1 ≤ 198 := by omega
        clear hx1 hxe1
        go_region_o
        go_wp2
        go_end0
        exact ⟨rfl, q0 + 1 + 1, _, by rw [AW1.out]; exact Lib.store2_world w blk off dk1 (q0 + 1) (0 + 1) (0) _ _ (by omega) (by omega), by simp [HI1.out.size]⟩
      · -- nd = 5
        go_wp2
        have hle0 := HI0.out.size
        go_name_slot 15 x0 hx0
        have hxe0 : x0 = ((v % 100 * 2 : Nat) : Int) := by omega
        have hXa0 : ∀ w, (Instr.index 9 (.string Lib.smalls) (.int .u32 (x0 + 1))).run Tryz.prog w = .ok (.int .u8 ((Lib.sm (v % 100 * 2 + 1)).toNat : Int)) w := Lib.idx_smalls 9 Tryz.underlying9 .u32 _ _ (by omega) (by omega)
        have hXb0 : ∀ w, (Instr.index 9 (.string Lib.smalls) (.int .u32 x0)).run Tryz.prog w = .ok (.int .u8 ((Lib.sm (v % 100 * 2)).toNat : Int)) w := Lib.idx_smalls 9 Tryz.underlying9 .u32 _ _ (by omega) (by omega)
        have hlo0 : 0 ≤ x0 := by omega
        have hhi0 : x0 ≤ 198 := by omega
        clear hx0 hxe0
        go_region_o
        go_wp2
        go_name_world W1 hW1
        have hw1 : W1 = (putRow bV w blk off ((dk0.setIfInBounds (3 + 1) (Lib.sm (v % 100 * 2 + 1))).setIfInBounds (3) (Lib.sm (v % 100 * 2)))).drewN (q0 + 0 + 1) := by rw [← hW1, AW0.out]; exact Lib.store2_world w blk off dk0 (q0 + 0) (3 + 1) (3) _ _ (by omega) (by omega)
        have HI1 : Hid (FW n (v / 100) ((dk0.setIfInBounds (3 + 1) (Lib.sm (v % 100 * 2 + 1))).setIfInBounds (3) (Lib.sm (v % 100 * 2)))) := FW.step2 HI0.out
        generalize ((dk0.setIfInBounds (3 + 1) (Lib.sm (v % 100 * 2 + 1))).setIfInBounds (3) (Lib.sm (v % 100 * 2))) = dk1 at hw1 HI1
        clear hW1 hc0 hf0 AW0 HI0 hXa0 hXb0 hle0
        have hH1 : Holds bV W1 blk off dk1 := by rw [hw1]; exact holds_putRow _ w blk off d dk1 AH.out (HI1.out.size.trans hd.symm)
        have hs1 := HI1.out.size
        have hv1 := HI1.out.small
        obtain ⟨G1, hG1⟩ : ∃ G : Nat → Int, ∀ t, G t = (dk1[t]!.toNat : Int) := ⟨_, fun _ => rfl⟩
        have hc1 : ∀ t, t < n → W1.cell? ⟨blk, off + t, none⟩ = some (.int .u8 (G1 t)) := fun t ht => by rw [hG1]; exact (hH1 t (by omega)).1
        have hf1 : ∀ t, t < n → W1.frozen? ⟨blk, off + t, none⟩ = false := fun t ht => (hH1 t (by omega)).2
        have AW1 := Lib.hid hw1
        clear hw1 hG1 hH1 hs1
        have hle1 := HI1.out.size
        go_name_slot 14 x1 hx1
        have hxe1 : x1 = ((v / 100 % 100 * 2 : Nat) : Int) := by omega
        have hXa1 : ∀ w, (Instr.index 9 (.string Lib.smalls) (.int .u32 (x1 + 1))).run Tryz.prog w = .ok (.int .u8 ((Lib.sm (v / 100 % 100 * 2 + 1)).toNat : Int)) w := Lib.idx_smalls 9 Tryz.underlying9 .u32 _ _ (by omega) (by omega)
        have hXb1 : ∀ w, (Instr.index 9 (.string Lib.smalls) (.int .u32 x1)).run Tryz.prog w = .ok (.int .u8 ((Lib.sm (v / 100 % 100 * 2)).toNat : Int)) w := Lib.idx_smalls 9 Tryz.underlying9 .u32 _ _ (by omega) (by omega)
        have hlo1 : 0 ≤ x1 := by omega
        have hhi1 : x1 ≤ 198 := by omega
        clear hx1 hxe1
        go_region_o
        go_wp2
        go_end0
        exact ⟨rfl, q0 + 1 + 1, _, by rw [AW1.out]; exact Lib.store21_world w blk off dk1 (q0 + 1) (1 + 1) (1) _ _ _ (v / 100 / 100) (by omega) (by omega) (by omega), by simp [HI1.out.size]⟩
      · -- nd = 6
        go_wp2
        have hle0 := HI0.out.size
        go_name_slot 15 x0 hx0
        have hxe0 : x0 = ((v % 100 * 2 : Nat) : Int) := by omega
        have hXa0 : ∀ w, (Instr.index 9 (.string Lib.smalls) (.int .u32 (x0 + 1))).run Tryz.prog w = .ok (.int .u8 ((Lib.sm (v % 100 * 2 + 1)).toNat : Int)) w := Lib.idx_smalls 9 Tryz.underlying9 .u32 _ _ (by omega) (by omega)
        have hXb0 : ∀ w, (Instr.index 9 (.string Lib.smalls) (.int .u32 x0)).run Tryz.prog w = .ok (.int .u8 ((Lib.sm (v % 100 * 2)).toNat : Int)) w := Lib.idx_smalls 9 Tryz.underlying9 .u32 _ _ (by omega) (by omega)
        have hlo0 : 0 ≤ x0 := by omega
        have hhi0 : x0 ≤ 198 := by omega
        clear hx0 hxe0
        go_region_o
        go_wp2
        go_name_world W1 hW1
        have hw1 : W1 = (putRow bV w blk off ((dk0.setIfInBounds (4 + 1) (Lib.sm (v % 100 * 2 + 1))).setIfInBounds (4) (Lib.sm (v % 100 * 2)))).drewN (q0 + 0 + 1) := by rw [← hW1, AW0.out]; exact Lib.store2_world w blk off dk0 (q0 + 0) (4 + 1) (4) _ _ (by omega) (by omega)
        have HI1 : Hid (FW n (v / 100) ((dk0.setIfInBounds (4 + 1) (Lib.sm (v % 100 * 2 + 1))).setIfInBounds (4) (Lib.sm (v % 100 * 2)))) := FW.step2 HI0.out
        generalize ((dk0.setIfInBounds (4 + 1) (Lib.sm (v % 100 * 2 + 1))).setIfInBounds (4) (Lib.sm (v % 100 * 2))) = dk1 at hw1 HI1
        clear hW1 hc0 hf0 AW0 HI0 hXa0 hXb0 hle0
        have hH1 : Holds bV W1 blk off dk1 := by rw [hw1]; exact holds_putRow _ w blk off d dk1 AH.out (HI1.out.size.trans hd.symm)
        have hs1 := HI1.out.size
        have hv1 := HI1.out.small
        obtain ⟨G1, hG1⟩ : ∃ G : Nat → Int, ∀ t, G t = (dk1[t]!.toNat : Int) := ⟨_, fun _ => rfl⟩
        have hc1 : ∀ t, t < n → W1.cell? ⟨blk, off + t, none⟩ = some (.int .u8 (G1 t)) := fun t ht => by rw [hG1]; exact (hH1 t (by omega)).1
        have hf1 : ∀ t, t < n → W1.frozen? ⟨blk, off + t, none⟩ = false := fun t ht => (hH1 t (by omega)).2
        have AW1 := Lib.hid hw1
        clear hw1 hG1 hH1 hs1
        have hle1 := HI1.out.size
        go_name_slot 14 x1 hx1
        have hxe1 : x1 = ((v / 100 % 100 * 2 : Nat) : Int) := by omega
        have hXa1 : ∀ w, (Instr.index 9 (.string Lib.smalls) (.int .u32 (x1 + 1))).run Tryz.prog w = .ok (.int .u8 ((Lib.sm (v / 100 % 100 * 2 + 1)).toNat : Int)) w := Lib.idx_smalls 9 Tryz.underlying9 .u32 _ _ (by omega) (by omega)
        have hXb1 : ∀ w, (Instr.index 9 (.string Lib.smalls) (.int .u32 x1)).run Tryz.prog w = .ok (.int .u8 ((Lib.sm (v / 100 % 100 * 2)).toNat : Int)) w := Lib.idx_smalls 9 Tryz.underlying9 .u32 _ _ (by omega) (by omega)
        have hlo1 : 0 ≤ x1 := by omega
        have hhi1 : x1 ≤ 198 := by omega
        clear hx1 hxe1
        go_region_o
        go_wp2
        go_name_world W2 hW2
        have hw2 : W2 = (putRow bV w blk off ((dk1.setIfInBounds (2 + 1) (Lib.sm (v / 100 % 100 * 2 + 1))).setIfInBounds (2) (Lib.sm (v / 100 % 100 * 2)))).drewN (q0 + 1 + 1) := by rw [← hW2, AW1.out]; exact Lib.store2_world w blk off dk1 (q0 + 1) (2 + 1) (2) _ _ (by omega) (by omega)
        have HI2 : Hid (FW n (v / 100 / 100) ((dk1.setIfInBounds (2 + 1) (Lib.sm (v / 100 % 100 * 2 + 1))).setIfInBounds (2) (Lib.sm (v / 100 % 100 * 2)))) := FW.step2 HI1.out
        generalize ((dk1.setIfInBounds (2 + 1) (Lib.sm (v / 100 % 100 * 2 + 1))).setIfInBounds (2) (Lib.sm (v / 100 % 100 * 2))) = dk2 at hw2 HI2
        clear hW2 hc1 hf1 AW1 HI1 hXa1 hXb1 hle1
        have hH2 : Holds bV W2 blk off dk2 := by rw [hw2]; exact holds_putRow _ w blk off d dk2 AH.out (HI2.out.size.trans hd.symm)
        have hs2 := HI2.out.size
        have hv2 := HI2.out.small
        obtain ⟨G2, hG2⟩ : ∃ G : Nat → Int, ∀ t, G t = (dk2[t]!.toNat : Int) := ⟨_, fun _ => rfl⟩
        have hc2 : ∀ t, t < n → W2.cell? ⟨blk, off + t, none⟩ = some (.int .u8 (G2 t)) := fun t ht => by rw [hG2]; exact (hH2 t (by omega)).1
        have hf2 : ∀ t, t < n → W2.frozen? ⟨blk, off + t, none⟩ = false := fun t ht => (hH2 t (by omega)).2
        have AW2 := Lib.hid hw2
        clear hw2 hG2 hH2 hs2
        have hle2 := HI2.out.size
        go_name_slot 16 x2 hx2
        have hxe2 : x2 = ((v / 100 / 100 % 100 * 2 : Nat) : Int) := by omega
        have hXa2 : ∀ w, (Instr.index 9 (.string Lib.smalls) (.int .u32 (x2 + 1))).run Tryz.prog w = .ok (.int .u8 ((Lib.sm (v / 100 / 100 % 100 * 2 + 1)).toNat : Int)) w := Lib.idx_smalls 9 Tryz.underlying9 .u32 _ _ (by omega) (by omega)
        have hXb2 : ∀ w, (Instr.index 9 (.string Lib.smalls) (.int .u32 x2)).run Tryz.prog w = .ok (.int .u8 ((Lib.sm (v / 100 / 100 % 100 * 2)).toNat : Int)) w := Lib.idx_smalls 9 Tryz.underlying9 .u32 _ _ (by omega) (by omega)
        have hlo2 : 0 ≤ x2 := by omega
        have hhi2 : x2 ≤ 198 := by omega
        clear hx2 hxe2
        go_region_o
        go_wp2
        go_end0
        exact ⟨rfl, q0 + 2 + 1, _, by rw [AW2.out]; exact Lib.store2_world w blk off dk2 (q0 + 2) (0 + 1) (0) _ _ (by omega) (by omega), by simp [HI2.out.size]⟩
      · -- nd = 7
        go_wp2
        have hle0 := HI0.out.size
        go_name_slot 15 x0 hx0
        have hxe0 : x0 = ((v % 100 * 2 : Nat) : Int) := by omega
        have hXa0 : ∀ w, (Instr.index 9 (.string Lib.smalls) (.int .u32 (x0 + 1))).run Tryz.prog w = .ok (.int .u8 ((Lib.sm (v % 100 * 2 + 1)).toNat : Int)) w := Lib.idx_smalls 9 Tryz.underlying9 .u32 _ _ (by omega) (by omega)
        have hXb0 : ∀ w, (Instr.index 9 (.string Lib.smalls) (.int .u32 x0)).run Tryz.prog w = .ok (.int .u8 ((Lib.sm (v % 100 * 2)).toNat : Int)) w := Lib.idx_smalls 9 Tryz.underlying9 .u32 _ _ (by omega) (by omega)
        have hlo0 : 0 ≤ x0 := by omega
        have hhi0 : x0 ≤ 198 := by omega
        clear hx0 hxe0
        go_region_o
        go_wp2
        go_name_world W1 hW1
        have hw1 : W1 = (putRow bV w blk off ((dk0.setIfInBounds (5 + 1) (Lib.sm (v % 100 * 2 + 1))).setIfInBounds (5) (Lib.sm (v % 100 * 2)))).drewN (q0 + 0 + 1) := by rw [← hW1, AW0.out]; exact Lib.store2_world w blk off dk0 (q0 + 0) (5 + 1) (5) _ _ (by omega) (by omega)
        have HI1 : Hid (FW n (v / 100) ((dk0.setIfInBounds (5 + 1) (Lib.sm (v % 100 * 2 + 1))).setIfInBounds (5) (Lib.sm (v % 100 * 2)))) := FW.step2 HI0.out
        generalize ((dk0.setIfInBounds (5 + 1) (Lib.sm (v % 100 * 2 + 1))).setIfInBounds (5) (Lib.sm (v % 100 * 2))) = dk1 at hw1 HI1
        clear hW1 hc0 hf0 AW0 HI0 hXa0 hXb0 hle0
        have hH1 : Holds bV W1 blk off dk1 := by rw [hw1]; exact holds_putRow _ w blk off d dk1 AH.out (HI1.out.size.trans hd.symm)
        have hs1 := HI1.out.size
        have hv1 := HI1.out.small
        obtain ⟨G1, hG1⟩ : ∃ G : Nat → Int, ∀ t, G t = (dk1[t]!.toNat : Int) := ⟨_, fun _ => rfl⟩
        have hc1 : ∀ t, t < n → W1.cell? ⟨blk, off + t, none⟩ = some (.int .u8 (G1 t)) := fun t ht => by rw [hG1]; exact (hH1 t (by omega)).1
        have hf1 : ∀ t, t < n → W1.frozen? ⟨blk, off + t, none⟩ = false := fun t ht => (hH1 t (by omega)).2
        have AW1 := Lib.hid hw1
        clear hw1 hG1 hH1 hs1
        have hle1 := HI1.out.size
        go_name_slot 14 x1 hx1
        have hxe1 : x1 = ((v / 100 % 100 * 2 : Nat) : Int) := by omega
        have hXa1 : ∀ w, (Instr.index 9 (.string Lib.smalls) (.int .u32 (x1 + 1))).run Tryz.prog w = .ok (.int .u8 ((Lib.sm (v / 100 % 100 * 2 + 1)).toNat : Int)) w := Lib.idx_smalls 9 Tryz.underlying9 .u32 _ _ (by omega) (by omega)
        have hXb1 : ∀ w, (Instr.index 9 (.string Lib.smalls) (.int .u32 x1)).run Tryz.prog w = .ok (.int .u8 ((Lib.sm (v / 100 % 100 * 2)).toNat : Int)) w := Lib.idx_smalls 9 Tryz.underlying9 .u32 _ _ (by omega) (by omega)
        have hlo1 : 0 ≤ x1 := by omega
        have hhi1 : x1 ≤ 198 := by omega
        clear hx1 hxe1
        go_region_o
        go_wp2
        go_name_world W2 hW2
        have hw2 : W2 = (putRow bV w blk off ((dk1.setIfInBounds (3 + 1) (Lib.sm (v / 100 % 100 * 2 + 1))).setIfInBounds (3) (Lib.sm (v / 100 % 100 * 2)))).drewN (q0 + 1 + 1) := by rw [← hW2, AW1.out]; exact Lib.store2_world w blk off dk1 (q0 + 1) (3 + 1) (3) _ _ (by omega) (by omega)
        have HI2 : Hid (FW n (v / 100 / 100) ((dk1.setIfInBounds (3 + 1) (Lib.sm (v / 100 % 100 * 2 + 1))).setIfInBounds (3) (Lib.sm (v / 100 % 100 * 2)))) := FW.step2 HI1.out
        generalize ((dk1.setIfInBounds (3 + 1) (Lib.sm (v / 100 % 100 * 2 + 1))).setIfInBounds (3) (Lib.sm (v / 100 % 100 * 2))) = dk2 at hw2 HI2
        clear hW2 hc1 hf1 AW1 HI1 hXa1 hXb1 hle1
        have hH2 : Holds bV W2 blk off dk2 := by rw [hw2]; exact holds_putRow _ w blk off d dk2 AH.out (HI2.out.size.trans hd.symm)
        have hs2 := HI2.out.size
        have hv2 := HI2.out.small
        obtain ⟨G2, hG2⟩ : ∃ G : Nat → Int, ∀ t, G t = (dk2[t]!.toNat : Int) := ⟨_, fun _ => rfl⟩
        have hc2 : ∀ t, t < n → W2.cell? ⟨blk, off + t, none⟩ = some (.int .u8 (G2 t)) := fun t ht => by rw [hG2]; exact (hH2 t (by omega)).1
        have hf2 : ∀ t, t < n → W2.frozen? ⟨blk, off + t, none⟩ = false := fun t ht => (hH2 t (by omega)).2
        have AW2 := Lib.hid hw2
        clear hw2 hG2 hH2 hs2
        have hle2 := HI2.out.size
        go_name_slot 16 x2 hx2
        have hxe2 : x2 = ((v / 100 / 100 % 100 * 2 : Nat) : Int) := by omega
        have hXa2 : ∀ w, (Instr.index 9 (.string Lib.smalls) (.int .u32 (x2 + 1))).run Tryz.prog w = .ok (.int .u8 ((Lib.sm (v / 100 / 100 % 100 * 2 + 1)).toNat : Int)) w := Lib.idx_smalls 9 Tryz.underlying9 .u32 _ _ (by omega) (by omega)
        have hXb2 : ∀ w, (Instr.index 9 (.string Lib.smalls) (.int .u32 x2)).run Tryz.prog w = .ok (.int .u8 ((Lib.sm (v / 100 / 100 % 100 * 2)).toNat : Int)) w := Lib.idx_smalls 9 Tryz.underlying9 .u32 _ _ (by omega) (by omega)
        have hlo2 : 0 ≤ x2 := by omega
        have hhi2 : x2 ≤ 198 := by omega
        clear hx2 hxe2
        go_region_o
        go_wp2
        go_end0
        exact ⟨rfl, q0 + 2 + 1, _, by rw [AW2.out]; exact Lib.store21_world w blk off dk2 (q0 + 2) (1 + 1) (1) _ _ _ (v / 100 / 100 / 100) (by omega) (by omega) (by omega), by simp [HI2.out.size]⟩
end Go.Proofs.YtghgffhcdnmpnaaGreat
/-
  Itoa (178) where the table of powers is unknown: some text of twenty bytes at most. Conditions: a number from 0 on, below 2^31; the table's cells are numbers.
-/
namespace Go.Proofs.YtghgffhcdnmpnaaGreat
open Go.RowKit Go.Sort
/-- The table of powers lies there, whatever it holds. -/
def Tab20 (w : World) : Prop := ∀ i, i < 20 → ∃ m : Int, w.cell? ⟨2, i, none⟩ = some (.int .u64 m)
theorem Tab20.kept {S : List Nat} {w w' : World} (h : Tab20 w) (k : Kept S w w') (hS : 2 ∉ S) : Tab20 w' := fun i hi => by
  obtain ⟨m, hm⟩ := h i hi
  exact ⟨m, k.cell hm hS⟩
theorem Tab20.kept0 {w w' : World} (h : Tab20 w) (k : Kept [] w w') : Tab20 w' := h.kept k (by simp)
set_option maxRecDepth 100000 in
theorem numDigits_weak (u : Nat) (h1 : 1 ≤ u) (h2 : u ≤ 2147483647) (w : World) (ht : Tab20 w) :
    Calls Tryz.prog 182 #[.int .u64 u] w fun e w' => ∃ i : Nat, e = .returned (.int .i64 i) ∧ i ≤ 20 ∧ w' = w := by
  have mixed := Tryz.lays285.mixed
  obtain ⟨hnd, h19⟩ := Lib.numDigits_eq u h1 (by omega)
  have hL : Lib.bitLen u ≤ 64 := Lib.bitLen_le u 64 (Nat.le_refl _) (by omega)
  obtain ⟨m, hcell⟩ := ht (Lib.l10 (Lib.bitLen u)) (by omega)
  have hto : ((u : Int)).toNat = u := by omega
  have HB := Lib.hid (fun w => Tryz.bits_Len64 (u : Int) w (by omega) (by omega))
  rw [hto] at HB
  have HL := Lib.hid (fun w => Tryz.internal_strconv_log10Pow2 (Lib.bitLen u) hL w)
  generalize Lib.l10 (Lib.bitLen u) = q at hcell h19 HL
  have h20 : q < 20 := by omega
  have HBO := Lib.hid Tryz.internal_strconv_bool2_int
  clear hnd ht hL hto
  by_cases hge : m ≤ (u : Int)
  · go_enter Tryz.func182, Tryz.ntmps182
    go_wp2_with (first
      | ((with_reducible refine (HB.out _).mono ?_); rintro e w' ⟨rfl, rfl⟩)
      | ((with_reducible refine (HL.out _).mono ?_); rintro e w' ⟨rfl, rfl⟩)
      | ((with_reducible refine (HBO.out _ _).mono ?_); rintro e w' ⟨rfl, rfl⟩))
    go_ret
    exact ⟨q + 1, rfl, by omega, rfl⟩
  · have hlt : ¬ m ≤ (u : Int) := hge
    go_enter Tryz.func182, Tryz.ntmps182
    go_wp2_with (first
      | ((with_reducible refine (HB.out _).mono ?_); rintro e w' ⟨rfl, rfl⟩)
      | ((with_reducible refine (HL.out _).mono ?_); rintro e w' ⟨rfl, rfl⟩)
      | ((with_reducible refine (HBO.out _ _).mono ?_); rintro e w' ⟨rfl, rfl⟩))
    go_ret
    exact ⟨q, rfl, by omega, rfl⟩
set_option maxRecDepth 100000 in
set_option maxHeartbeats 1600000 in
theorem formatInt_weak (u : Nat) (h1 : 100 ≤ u) (h2 : u ≤ 2147483647) (w : World) (ht : Tab20 w) :
    Calls Tryz.prog 180 #[.int .i64 u, .int .i64 10] w fun e w' => ∃ s : ByteArray, e = .returned (.string s) ∧ s.size ≤ 20 ∧ Kept [] w w' := by
  have mixed := Tryz.lays285.mixed
  have HD := Lib.hid (fun W (hW : Kept [] w W) => numDigits_weak u (by omega) h2 W (ht.kept0 hW))
  have hal : Tryz.prog.arrayLen 251 = 24 := by simp [Program.arrayLen, Tryz.underlying251]
  have HSL : Hid (∀ (i : Nat) (W : World), i ≤ 20 → (Instr.sliceAt 251 (.pointer (some ⟨w.heap.size, 0, none⟩)) (some (.int .i64 1)) (some (.int .i64 (1 + (i : Int)))) none).run Tryz.prog W = .ok (.slice (some ⟨w.heap.size, 1, none⟩) i 23) W) := fun i W hi => by
    rw [run_sliceAt_array_lh W 251 ⟨w.heap.size, 0, none⟩ (by simp [Program.arrayLen, Program.elem, Tryz.underlying251]) .i64 .i64 1 (1 + (i : Int)) (by omega) (by omega) (by rw [hal]; omega)]
    go_simp
    omega
  clear hal ht
  go_enter Tryz.func180, Tryz.ntmps180
  go_wp2_with ((with_reducible refine (HD.out _ ((Kept.refl _ _).alloc _)).mono ?_); rintro e w' ⟨i, rfl, hi, rfl⟩; have hsl1 := fun W => HSL.out i W hi)
  have hH0 := Lib.holds_zero w 251 i (by omega)
  have hfmt := fmt_weak w.heap.size 1 23 i u (Array.replicate i 0) (w.alloc (.cells Lib.zeros24 251)) (Array.size_replicate) hH0 h2 (by omega)
  refine hfmt.mono ?_
  rintro e w' ⟨rfl, k, dk, rfl, hdk⟩
  have hcv : (convert 22 9 (.slice (some ⟨w.heap.size, 1, none⟩) i 23)).run Tryz.prog ((putRow bV (w.alloc (.cells Lib.zeros24 251)) w.heap.size 1 dk).drewN k) = .ok (.string ⟨dk⟩) ((putRow bV (w.alloc (.cells Lib.zeros24 251)) w.heap.size 1 dk).drewN k) := by
    have h := run_convert_bytes_back (P := Tryz.prog) ((putRow bV (w.alloc (.cells Lib.zeros24 251)) w.heap.size 1 dk).drewN k) 22 9 5 ⟨w.heap.size, 1, none⟩ 23 dk.toList Tryz.underlying22 Tryz.underlying5 Tryz.underlying9 (fun j hj => by
      have hj' : j < dk.size := by simpa using hj
      rw [Lib.add_plain, World.cell?_drewN]
      have h1 := cell?_putRow bV (w.alloc (.cells Lib.zeros24 251)) w.heap.size 1 _ dk hH0 (by rw [hdk, Array.size_replicate]) j hj'
      rw [h1]
      simp [getElem!_pos dk j hj'])
    rw [Array.length_toList, hdk] at h
    exact h
  have HK : Hid (Kept [] w ((putRow bV (w.alloc (.cells Lib.zeros24 251)) w.heap.size 1 dk).drewN k)) := by
    obtain ⟨os, eo⟩ := Lib.fin_pos w (.cells Lib.zeros24 251) dk k
    rw [eo]
    exact kept_grow ((Kept.refl _ _).drewN _) _
  clear hH0 hfmt
  go_wp2
  go_ret
  exact ⟨_, rfl, by show dk.size ≤ 20; omega, HK.out⟩
theorem formatInt_any (u : Nat) (h2 : u ≤ 2147483647) (w : World) (ht : Tab20 w) :
    Calls Tryz.prog 180 #[.int .i64 u, .int .i64 10] w fun e w' => ∃ s : ByteArray, e = .returned (.string s) ∧ s.size ≤ 20 ∧ Kept [] w w' := by
  by_cases h : u < 100
  · refine (Tryz.internal_strconv_FormatInt_10_small u h w).mono ?_
    rintro e w' ⟨rfl, rfl⟩
    exact ⟨_, rfl, by have := digits_len u h; show (Lib.decDigits u).toArray.size ≤ 20; simp; omega, Kept.refl _ _⟩
  · exact formatInt_weak u (by omega) h2 w ht
theorem itoa_weak (u : Nat) (h2 : u ≤ 2147483647) (w : World) (ht : Tab20 w) :
    Calls Tryz.prog 178 #[.int .i64 u] w fun e w' => ∃ s : ByteArray, e = .returned (.string s) ∧ s.size ≤ 20 ∧ Kept [] w w' := by
  have HF := Lib.hid (formatInt_any u h2 w ht)
  have HI : Hid (Calls Tryz.prog 179 #[.int .i64 u] w fun e w' => ∃ s : ByteArray, e = .returned (.string s) ∧ s.size ≤ 20 ∧ Kept [] w w') := by
    go_enter Tryz.func179, Tryz.ntmps179
    go_wp2_with ((with_reducible refine HF.out.mono ?_); rintro e w1 ⟨s, rfl, hs, hk⟩)
    go_ret
    exact ⟨s, rfl, hs, hk⟩
  clear HF
  go_enter Tryz.func178, Tryz.ntmps178
  go_wp2_with ((with_reducible refine HI.out.mono ?_); rintro e w1 ⟨s, rfl, hs, hk⟩)
  go_ret
  exact ⟨s, rfl, hs, hk⟩
end Go.Proofs.YtghgffhcdnmpnaaGreat
