/-
  The partitioners by hashes: how they are made, and what they answer. Conditions: keys of 100 bytes at most, 1 to 2147483647 partitions.
-/
import Derived.Test.YtghgffhcdnmpnaaGreatZH0
import Derived.WalkLawsBesides
import Derived.WalkSpells
namespace Go.Proofs.YtghgffhcdnmpnaaGreat
open Go.RowKit
theorem encode_any (v : Value) (w : World) : Calls Tryz.prog 301 #[v] w fun e w' => e = .returned (.tuple #[v, .nilIface]) ∧ w = w' := by
  go_enter Tryz.func301, Tryz.ntmps301
  go_wp2
  refine bodyPost_ret (results_tmp2 rfl _ _ _) rfl ⟨rfl, rfl⟩
def hashObj (g : Nat) (r u : Bool) : Obj := .cells #[.iface 160 (.agg #[]), .iface 161 (.pointer (some ⟨g, 0, none⟩)), .bool r, .bool u] 117
def msgObj (A : Option Addr) (n c : Nat) (part : Int) : Obj := .cells #[.string ⟨#[]⟩, .iface 56 (.slice A n c), .nilIface, .int .i32 part] 61
theorem hb_ne {w : World} {bh g : Nat} {r u : Bool} {s k : Int} (hh : w.heap[bh]? = some (hashObj g r u)) (hg : w.heap[g]? = some (sumObj s k)) : bh ≠ g := by
  rintro rfl
  rw [hh] at hg
  injection hg with hg
  injection hg with h1 h2
  cases h2
theorem hashSl {w W : World} {g : Nat} {A : Option Addr} {key : List Int} (h : SlIs w 1 A key.length (bytesV key)) (hA : ∀ a, A = some a → 0 < key.length → a.block ≠ g) (hk : Kept [g] w W) : SlIs W 1 A key.length (bytesV key) := by
  refine ⟨h.1, h.2.1, fun hn => ?_⟩
  obtain ⟨b, off, hA', hc⟩ := h.2.2 hn
  exact ⟨b, off, hA', fun i v hv => hk.cell (hc i v hv) (by simpa using hA _ hA' hn)⟩
theorem tup32 {a b : Int} (h : a = b) : Ending.returned (.tuple #[.int .i32 a, .nilIface]) = .returned (.tuple #[.int .i32 b, .nilIface]) := by rw [h]
set_option maxRecDepth 100000 in
set_option maxHeartbeats 1600000 in
theorem hash0_any (bh g bm : Nat) (s : Int) (A : Option Addr) (c : Nat) (key : List Int) (part n : Int) (w : World) (hh : w.heap[bh]? = some (hashObj g false false)) (hg : w.heap[g]? = some (sumObj s 0)) (hm : w.heap[bm]? = some (msgObj A key.length c part)) (hkey : SlIs w 1 A key.length (bytesV key)) (hA : ∀ a, A = some a → 0 < key.length → a.block ≠ g) (hk : isKey key) (hn : 1 ≤ n) (hn2 : n ≤ 2147483647) :
    Calls Tryz.prog 137 #[.pointer (some ⟨bh, 0, none⟩), .pointer (some ⟨bm, 0, none⟩), .int .i32 n] w fun e w' => e = .returned (.tuple #[.int .i32 (ansOf 0 key part n), .nilIface]) ∧ (∃ s, w'.heap[g]? = some (sumObj s 0)) ∧ Kept [g] w w' := by
  have h1 : w.cell? ⟨bh, 1, none⟩ = some (.iface 161 (.pointer (some ⟨g, 0, none⟩))) := by simp [World.cell?, hh, hashObj]
  have h3 : w.cell? ⟨bm, 1, none⟩ = some (.iface 56 (.slice A key.length c)) := by simp [World.cell?, hm, msgObj]
  have hmE : ∀ (rv : Value) (w : World), (method 518 56 rv "Encode").run Tryz.prog w = .ok (301, rv) w := fun _ _ => by kernel_rfl
  have hmR : ∀ (rv : Value) (w : World), (method 518 161 rv "Reset").run Tryz.prog w = .ok (251, rv) w := fun _ _ => by kernel_rfl
  have hmW : ∀ (rv : Value) (w : World), (method 518 161 rv "Write").run Tryz.prog w = .ok (255, rv) w := fun _ _ => by kernel_rfl
  have hmS : ∀ (rv : Value) (w : World), (method 518 161 rv "Sum32").run Tryz.prog w = .ok (254, rv) w := fun _ _ => by kernel_rfl
  have HE := Lib.hid encode_any
  have HR := Lib.hid (reset0_any g s w hg)
  have HW := Lib.hid (fun W (hW : W.heap[g]? = some (sumObj 2166136261 0) ∧ Kept [g] w W) => write0_any g 2166136261 A c key W hW.1 (hashSl hkey hA hW.2) hA hk.1 hk.2 (by omega))
  have HS := Lib.hid (fun s W hW => sum32_any g s 0 W hW)
  have hbh := hb_ne hh hg
  have HBH := Lib.hid (show ∀ W, Kept [g] w W → W.cell? ⟨bh, 1, none⟩ = some (.iface 161 (.pointer (some ⟨g, 0, none⟩))) ∧ W.cell? ⟨bh, 2, none⟩ = some (.bool false) ∧ W.cell? ⟨bh, 3, none⟩ = some (.bool false) from fun W hW => by have := hW.heap hh (by simpa using hbh); simp [World.cell?, this, hashObj])
  obtain ⟨f0, f1⟩ : 0 ≤ key.foldl fnvStep 2166136261 ∧ key.foldl fnvStep 2166136261 ≤ 4294967295 := fnvL_in key
  obtain ⟨x, hx⟩ : ∃ x, key.foldl fnvStep 2166136261 = x := ⟨_, rfl⟩
  rw [hx] at HW f0 f1
  have HX := Lib.hid hx
  have HKEY := Lib.hid hk
  clear hg hh hm hkey hA hx hk
  go_enter Tryz.func137, Tryz.ntmps137
  go_wp2_with (first | (with_reducible refine (HE.out _ _).mono ?_; rintro e w1 ⟨rfl, rfl⟩) | (with_reducible refine HR.out.mono ?_; rintro e w1 ⟨rfl, hg1, hk1⟩; obtain ⟨h5, h6, h7⟩ := HBH.out w1 hk1; have HG1 := Lib.hid hg1; have HK1 := Lib.hid hk1; clear hg1 hk1) | (with_reducible refine (HW.out _ ⟨HG1.out, HK1.out⟩).mono ?_; rintro e w2 ⟨rfl, hg2, hk2⟩; obtain ⟨h8, h9, h10⟩ := HBH.out w2 (HK1.out.trans hk2 (fun x hx => .inl hx)); have HG2 := Lib.hid hg2; have HK2 := Lib.hid hk2; clear hg2 hk2) | (with_reducible refine (HS.out _ _ HG2.out).mono ?_; rintro e w3 ⟨rfl, rfl⟩))
  · have hab := tmod_abs (wrap32 x) n hn
    have hp : (wrap32 x).tmod n < 0 := by assumption
    go_ret2
    refine ⟨tup32 ?_, ⟨_, HG2.out⟩, HK1.out.trans HK2.out (fun x hx => .inl hx)⟩
    rw [ansOf, show fnvL key = x from HX.out, neg_wrap _ n hn2 hab]
    omega
  · have hp : 0 ≤ (wrap32 x).tmod n := by assumption
    go_ret2
    refine ⟨tup32 ?_, ⟨_, HG2.out⟩, HK1.out.trans HK2.out (fun x hx => .inl hx)⟩
    rw [ansOf, show fnvL key = x from HX.out]
    omega
set_option maxRecDepth 100000 in
set_option maxHeartbeats 1600000 in
theorem hash1_any (bh g bm : Nat) (s : Int) (A : Option Addr) (c : Nat) (key : List Int) (part n : Int) (w : World) (hh : w.heap[bh]? = some (hashObj g true false)) (hg : w.heap[g]? = some (sumObj s 0)) (hm : w.heap[bm]? = some (msgObj A key.length c part)) (hkey : SlIs w 1 A key.length (bytesV key)) (hA : ∀ a, A = some a → 0 < key.length → a.block ≠ g) (hk : isKey key) (hn : 1 ≤ n) (hn2 : n ≤ 2147483647) :
    Calls Tryz.prog 137 #[.pointer (some ⟨bh, 0, none⟩), .pointer (some ⟨bm, 0, none⟩), .int .i32 n] w fun e w' => e = .returned (.tuple #[.int .i32 (ansOf 1 key part n), .nilIface]) ∧ (∃ s, w'.heap[g]? = some (sumObj s 0)) ∧ Kept [g] w w' := by
  have h1 : w.cell? ⟨bh, 1, none⟩ = some (.iface 161 (.pointer (some ⟨g, 0, none⟩))) := by simp [World.cell?, hh, hashObj]
  have h3 : w.cell? ⟨bm, 1, none⟩ = some (.iface 56 (.slice A key.length c)) := by simp [World.cell?, hm, msgObj]
  have hmE : ∀ (rv : Value) (w : World), (method 518 56 rv "Encode").run Tryz.prog w = .ok (301, rv) w := fun _ _ => by kernel_rfl
  have hmR : ∀ (rv : Value) (w : World), (method 518 161 rv "Reset").run Tryz.prog w = .ok (251, rv) w := fun _ _ => by kernel_rfl
  have hmW : ∀ (rv : Value) (w : World), (method 518 161 rv "Write").run Tryz.prog w = .ok (255, rv) w := fun _ _ => by kernel_rfl
  have hmS : ∀ (rv : Value) (w : World), (method 518 161 rv "Sum32").run Tryz.prog w = .ok (254, rv) w := fun _ _ => by kernel_rfl
  have HE := Lib.hid encode_any
  have HR := Lib.hid (reset0_any g s w hg)
  have HW := Lib.hid (fun W (hW : W.heap[g]? = some (sumObj 2166136261 0) ∧ Kept [g] w W) => write0_any g 2166136261 A c key W hW.1 (hashSl hkey hA hW.2) hA hk.1 hk.2 (by omega))
  have HS := Lib.hid (fun s W hW => sum32_any g s 0 W hW)
  have hbh := hb_ne hh hg
  have HBH := Lib.hid (show ∀ W, Kept [g] w W → W.cell? ⟨bh, 1, none⟩ = some (.iface 161 (.pointer (some ⟨g, 0, none⟩))) ∧ W.cell? ⟨bh, 2, none⟩ = some (.bool true) ∧ W.cell? ⟨bh, 3, none⟩ = some (.bool false) from fun W hW => by have := hW.heap hh (by simpa using hbh); simp [World.cell?, this, hashObj])
  obtain ⟨f0, f1⟩ : 0 ≤ key.foldl fnvStep 2166136261 ∧ key.foldl fnvStep 2166136261 ≤ 4294967295 := fnvL_in key
  obtain ⟨x, hx⟩ : ∃ x, key.foldl fnvStep 2166136261 = x := ⟨_, rfl⟩
  rw [hx] at HW f0 f1
  have HX := Lib.hid hx
  have HKEY := Lib.hid hk
  clear hg hh hm hkey hA hx hk
  go_enter Tryz.func137, Tryz.ntmps137
  go_wp2_with (first | (with_reducible refine (HE.out _ _).mono ?_; rintro e w1 ⟨rfl, rfl⟩) | (with_reducible refine HR.out.mono ?_; rintro e w1 ⟨rfl, hg1, hk1⟩; obtain ⟨h5, h6, h7⟩ := HBH.out w1 hk1; have HG1 := Lib.hid hg1; have HK1 := Lib.hid hk1; clear hg1 hk1) | (with_reducible refine (HW.out _ ⟨HG1.out, HK1.out⟩).mono ?_; rintro e w2 ⟨rfl, hg2, hk2⟩; obtain ⟨h8, h9, h10⟩ := HBH.out w2 (HK1.out.trans hk2 (fun x hx => .inl hx)); have HG2 := Lib.hid hg2; have HK2 := Lib.hid hk2; clear hg2 hk2) | (with_reducible refine (HS.out _ _ HG2.out).mono ?_; rintro e w3 ⟨rfl, rfl⟩))
  go_ret2
  refine ⟨tup32 ?_, ⟨_, HG2.out⟩, HK1.out.trans HK2.out (fun x hx => .inl hx)⟩
  rw [ansOf, show fnvL key = x from HX.out, and_i32, Int.tmod_eq_emod_of_nonneg (by omega)]
  congr 1
  unfold wrap32
  omega
set_option maxRecDepth 100000 in
set_option maxHeartbeats 1600000 in
theorem hash2_any (bh g bm : Nat) (s : Int) (A : Option Addr) (c : Nat) (key : List Int) (part n : Int) (w : World) (hh : w.heap[bh]? = some (hashObj g false true)) (hg : w.heap[g]? = some (sumObj s 1)) (hm : w.heap[bm]? = some (msgObj A key.length c part)) (hkey : SlIs w 1 A key.length (bytesV key)) (hA : ∀ a, A = some a → 0 < key.length → a.block ≠ g) (hk : isKey key) (hn : 1 ≤ n) (hn2 : n ≤ 2147483647) :
    Calls Tryz.prog 137 #[.pointer (some ⟨bh, 0, none⟩), .pointer (some ⟨bm, 0, none⟩), .int .i32 n] w fun e w' => e = .returned (.tuple #[.int .i32 (ansOf 2 key part n), .nilIface]) ∧ (∃ s, w'.heap[g]? = some (sumObj s 1)) ∧ Kept [g] w w' := by
  have h1 : w.cell? ⟨bh, 1, none⟩ = some (.iface 161 (.pointer (some ⟨g, 0, none⟩))) := by simp [World.cell?, hh, hashObj]
  have h3 : w.cell? ⟨bm, 1, none⟩ = some (.iface 56 (.slice A key.length c)) := by simp [World.cell?, hm, msgObj]
  have hmE : ∀ (rv : Value) (w : World), (method 518 56 rv "Encode").run Tryz.prog w = .ok (301, rv) w := fun _ _ => by kernel_rfl
  have hmR : ∀ (rv : Value) (w : World), (method 518 161 rv "Reset").run Tryz.prog w = .ok (251, rv) w := fun _ _ => by kernel_rfl
  have hmW : ∀ (rv : Value) (w : World), (method 518 161 rv "Write").run Tryz.prog w = .ok (255, rv) w := fun _ _ => by kernel_rfl
  have hmS : ∀ (rv : Value) (w : World), (method 518 161 rv "Sum32").run Tryz.prog w = .ok (254, rv) w := fun _ _ => by kernel_rfl
  have HE := Lib.hid encode_any
  have HR := Lib.hid (reset1_any g s w hg)
  have HW := Lib.hid (fun W (hW : W.heap[g]? = some (sumObj 0 1) ∧ Kept [g] w W) => write1_any g 0 A c key W hW.1 (hashSl hkey hA hW.2) hA hk.1 hk.2 (by omega))
  have HS := Lib.hid (fun s W hW => sum32_any g s 1 W hW)
  have hbh := hb_ne hh hg
  have HBH := Lib.hid (show ∀ W, Kept [g] w W → W.cell? ⟨bh, 1, none⟩ = some (.iface 161 (.pointer (some ⟨g, 0, none⟩))) ∧ W.cell? ⟨bh, 2, none⟩ = some (.bool false) ∧ W.cell? ⟨bh, 3, none⟩ = some (.bool true) from fun W hW => by have := hW.heap hh (by simpa using hbh); simp [World.cell?, this, hashObj])
  obtain ⟨f0, f1⟩ : 0 ≤ key.foldl crcO 0 ∧ key.foldl crcO 0 ≤ 4294967295 := crcOs_in key 0 hk.2 (by omega) (by omega)
  obtain ⟨x, hx⟩ : ∃ x, key.foldl crcO 0 = x := ⟨_, rfl⟩
  rw [hx] at HW f0 f1
  have HX := Lib.hid hx
  have HKEY := Lib.hid hk
  clear hg hh hm hkey hA hx hk
  go_enter Tryz.func137, Tryz.ntmps137
  go_wp2_with (first | (with_reducible refine (HE.out _ _).mono ?_; rintro e w1 ⟨rfl, rfl⟩) | (with_reducible refine HR.out.mono ?_; rintro e w1 ⟨rfl, hg1, hk1⟩; obtain ⟨h5, h6, h7⟩ := HBH.out w1 hk1; have HG1 := Lib.hid hg1; have HK1 := Lib.hid hk1; clear hg1 hk1) | (with_reducible refine (HW.out _ ⟨HG1.out, HK1.out⟩).mono ?_; rintro e w2 ⟨rfl, hg2, hk2⟩; obtain ⟨h8, h9, h10⟩ := HBH.out w2 (HK1.out.trans hk2 (fun x hx => .inl hx)); have HG2 := Lib.hid hg2; have HK2 := Lib.hid hk2; clear hg2 hk2) | (with_reducible refine (HS.out _ _ HG2.out).mono ?_; rintro e w3 ⟨rfl, rfl⟩))
  go_ret2
  refine ⟨tup32 ?_, ⟨_, HG2.out⟩, HK1.out.trans HK2.out (fun x hx => .inl hx)⟩
  rw [ansOf, ← crcO_all key HKEY.out.2, HX.out, mod_wrap x n hn hn2]
end Go.Proofs.YtghgffhcdnmpnaaGreat
/-
  The partitioners, made anew; the one by murmur2. Conditions: keys of 100 bytes at most, 1 to 2147483647 partitions.
-/
namespace Go.Proofs.YtghgffhcdnmpnaaGreat
open Go.RowKit
set_option maxRecDepth 100000 in
set_option maxHeartbeats 1600000 in
theorem mur_any (rv : Value) (bm : Nat) (A : Option Addr) (c : Nat) (key : List Int) (part n : Int) (w : World) (hm : w.heap[bm]? = some (msgObj A key.length c part)) (hkey : SlIs w 1 A key.length (bytesV key)) (hc : key.length ≤ c) (hk : isKey key) (hn : 1 ≤ n) :
    Calls Tryz.prog 139 #[rv, .pointer (some ⟨bm, 0, none⟩), .int .i32 n] w fun e w' => e = .returned (.tuple #[.int .i32 (ansOf 3 key part n), .nilIface]) ∧ Kept [] w w' := by
  have h3 : w.cell? ⟨bm, 1, none⟩ = some (.iface 56 (.slice A key.length c)) := by simp [World.cell?, hm, msgObj]
  have hmE : ∀ (rv : Value) (w : World), (method 518 56 rv "Encode").run Tryz.prog w = .ok (301, rv) w := fun _ _ => by kernel_rfl
  have HE := Lib.hid encode_any
  have HM := Lib.hid (murmurC_any A c key w hkey hc hk.1 hk.2)
  obtain ⟨f0, f1⟩ := murL_in key
  obtain ⟨x, hx⟩ : ∃ x, murL key = x := ⟨_, rfl⟩
  rw [hx] at HM f0 f1
  have HX := Lib.hid hx
  have HT := Lib.hid (and_mod x n f0 f1 hn)
  clear hm hkey hx hk hc
  go_enter Tryz.func139, Tryz.ntmps139
  go_wp2_with (first | (with_reducible refine (HE.out _ _).mono ?_; rintro e w1 ⟨rfl, rfl⟩) | (with_reducible refine HM.out.mono ?_; rintro e w1 ⟨rfl, hk1⟩; have HK1 := Lib.hid hk1; clear hk1))
  go_ret2
  refine ⟨tup32 ?_, HK1.out⟩
  rw [HT.out, ansOf, HX.out]
def madeW (w : World) (r u : Bool) (s k : Int) : World := (w.alloc (hashObj (w.heap.size + 1) r u)).alloc (sumObj s k)
theorem newHash0 (v : Value) (w : World) : Calls Tryz.prog 53 #[v] w fun e w' => e = .returned (.iface 113 (.pointer (some ⟨w.heap.size, 0, none⟩))) ∧ w' = madeW w false false 2166136261 0 := by
  go_enter Tryz.func53, Tryz.ntmps53
  go_wp2
  go_ret
  exact ⟨rfl, rfl⟩
theorem newHash1 (v : Value) (w : World) : Calls Tryz.prog 54 #[v] w fun e w' => e = .returned (.iface 113 (.pointer (some ⟨w.heap.size, 0, none⟩))) ∧ w' = madeW w true false 2166136261 0 := by
  go_enter Tryz.func54, Tryz.ntmps54
  go_wp2
  go_ret
  exact ⟨rfl, rfl⟩
theorem newHash2 (v : Value) (w : World) : Calls Tryz.prog 55 #[v] w fun e w' => e = .returned (.iface 113 (.pointer (some ⟨w.heap.size, 0, none⟩))) ∧ w' = madeW w false true 0 1 := by
  go_enter Tryz.func55, Tryz.ntmps55
  go_wp2
  go_ret
  exact ⟨rfl, rfl⟩
theorem made0 (w : World) : Calls Tryz.prog 31 #[.int .i64 0] w fun e w' => e = .returned (.iface 113 (.pointer (some ⟨w.heap.size, 0, none⟩))) ∧ w' = madeW w false false 2166136261 0 := by
  have H := Lib.hid (fun v => newHash0 v w)
  go_enter Tryz.func31, Tryz.ntmps31
  go_wp2_with (with_reducible refine (H.out _).mono ?_; rintro e w1 ⟨rfl, rfl⟩)
  go_ret
  exact ⟨rfl, rfl⟩
theorem made1 (w : World) : Calls Tryz.prog 31 #[.int .i64 1] w fun e w' => e = .returned (.iface 113 (.pointer (some ⟨w.heap.size, 0, none⟩))) ∧ w' = madeW w true false 2166136261 0 := by
  have H := Lib.hid (fun v => newHash1 v w)
  go_enter Tryz.func31, Tryz.ntmps31
  go_wp2_with (with_reducible refine (H.out _).mono ?_; rintro e w1 ⟨rfl, rfl⟩)
  go_ret
  exact ⟨rfl, rfl⟩
theorem made2 (w : World) : Calls Tryz.prog 31 #[.int .i64 2] w fun e w' => e = .returned (.iface 113 (.pointer (some ⟨w.heap.size, 0, none⟩))) ∧ w' = madeW w false true 0 1 := by
  have H := Lib.hid (fun v => newHash2 v w)
  go_enter Tryz.func31, Tryz.ntmps31
  go_wp2_with (with_reducible refine (H.out _).mono ?_; rintro e w1 ⟨rfl, rfl⟩)
  go_ret
  exact ⟨rfl, rfl⟩
theorem newMur (v : Value) (w : World) : Calls Tryz.prog 56 #[v] w fun e w' => e = .returned (.iface 119 (.pointer (some ⟨w.heap.size, 0, none⟩))) ∧ Kept [] w w' := by
  go_enter Tryz.func56, Tryz.ntmps56
  go_wp2
  go_ret
  exact ⟨rfl, (Kept.refl _ _).alloc _⟩
theorem made3 (w : World) : Calls Tryz.prog 31 #[.int .i64 3] w fun e w' => e = .returned (.iface 119 (.pointer (some ⟨w.heap.size, 0, none⟩))) ∧ Kept [] w w' := by
  have H := Lib.hid (fun v => newMur v w)
  go_enter Tryz.func31, Tryz.ntmps31
  go_wp2_with (with_reducible refine (H.out _).mono ?_; rintro e w1 ⟨rfl, hk1⟩; have HK1 := Lib.hid hk1; clear hk1)
  go_ret
  exact ⟨rfl, HK1.out⟩
end Go.Proofs.YtghgffhcdnmpnaaGreat
