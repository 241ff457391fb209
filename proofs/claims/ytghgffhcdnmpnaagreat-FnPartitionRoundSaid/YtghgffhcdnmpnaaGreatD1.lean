/-
  FnPartition: a key has its partition by its hash; manually it is the message's. No condition: for every input.
-/
import Derived.Test.YtghgffhcdnmpnaaGreatD0
import Derived.Test.YtghgffhcdnmpnaaGreatC22
namespace Go.Proofs.YtghgffhcdnmpnaaGreat
open Go.ChangeShapes Go.WideShapes Go.ChangeAt Go.RowKit
theorem kind5 {k : Int} (_h0 : 0 ≤ k) : ∃ kk : Nat, kk < 5 ∧ k % 5 = (kk : Int) := ⟨(k % 5).toNat, by omega, by omega⟩
theorem kind4 {k : Int} (_h0 : 0 ≤ k) : ∃ kk : Nat, kk < 4 ∧ k % 4 = (kk : Int) := ⟨(k % 4).toNat, by omega, by omega⟩
set_option maxRecDepth 100000 in
set_option maxHeartbeats 1600000 in
theorem fnPartition_walk (k part n : Int) (A : Option Addr) (c : Nat) (key : List Int) (w : World) (hkey : SlIs w 1 A key.length (bytesV key)) (hb : ∀ x ∈ key, isB x) (hk0 : 0 ≤ k) (hk1 : k ≤ 255) (hn : n ≤ 2147483647) :
    Calls Tryz.prog 4 #[.int .u8 k, .slice A key.length c, .int .i32 part, .int .i32 n] w fun e w' => e = .returned (.bool true) ∧ Kept [] w w' := by
  have HG := Lib.hid groupAlive_any
  have h63 := hkey.2.1
  by_cases h1 : key.length ≤ 2147483647
  · by_cases h2 : key.length ≤ 100 ∧ 1 ≤ n
    · obtain ⟨h2, h3⟩ := h2
      obtain ⟨kk, hkk, hke⟩ := kind5 hk0
      have hP := fun W hW => partition_any kk hkk key part n A c W (hkey.kept0 hW) ⟨h2, hb⟩ h3 hn
      have hS := fun W hW => specPart_any kk hkk A c key part n W (hkey.kept0 hW) ⟨h2, hb⟩ h3 hn
      rw [← hke] at hP hS
      have HP := Lib.hid hP
      have HS := Lib.hid hS
      obtain ⟨r, hr⟩ : ∃ r, ansOf kk key part n = r := ⟨_, rfl⟩
      rw [hr] at HP HS
      clear hP hS hke hkey hb hr hkk h1
      go_enter Tryz.func4, Tryz.ntmps4
      go_wp2_with (first | (with_reducible refine (HP.out _ (Kept.refl _ _)).mono ?_; rintro e w1 ⟨rfl, hk1⟩; have HK1 := Lib.hid hk1; clear hk1) | (with_reducible refine (HG.out _).mono ?_; rintro e w2 ⟨rfl, hk2⟩; have HK2 := Lib.hid (HK1.out.trans0 hk2); clear hk2) | (with_reducible refine (HS.out _ HK2.out).mono ?_; rintro e w3 ⟨rfl, hk3⟩; have HK3 := Lib.hid (HK2.out.trans0 hk3); clear hk3))
      go_ret
      exact ⟨rfl, HK3.out⟩
    · clear hkey hb
      rcases (by omega : 100 < key.length ∨ (key.length ≤ 100 ∧ n < 1)) with h3 | ⟨h3, h4⟩
      · clear h2
        go_enter Tryz.func4, Tryz.ntmps4
        go_wp2_with (with_reducible refine (HG.out _).mono ?_; rintro e w2 ⟨rfl, hk2⟩; have HK2 := Lib.hid hk2; clear hk2)
        go_ret
        exact ⟨rfl, HK2.out⟩
      · clear h2
        go_enter Tryz.func4, Tryz.ntmps4
        go_wp2_with (with_reducible refine (HG.out _).mono ?_; rintro e w2 ⟨rfl, hk2⟩; have HK2 := Lib.hid hk2; clear hk2)
        go_ret
        exact ⟨rfl, HK2.out⟩
  · clear hkey hb
    go_enter Tryz.func4, Tryz.ntmps4
    go_wp2
    go_ret
    exact ⟨rfl, Kept.refl _ _⟩
theorem u8_in {k : Int} (h : (Lit.int .u8 k).wf = true) : 0 ≤ k ∧ k ≤ 255 := by
  simp [Lit.wf, IntKind.min, IntKind.max, IntKind.signed, IntKind.bits] at h
  omega
theorem i32_in' {k : Int} (h : (Lit.int .i32 k).wf = true) : -2147483648 ≤ k ∧ k ≤ 2147483647 := by
  simp [Lit.wf, IntKind.min, IntKind.max, IntKind.signed, IntKind.bits] at h
  omega
set_option maxRecDepth 100000 in
theorem fnPartition_law : LawWalk 4 Tryz.f4 := by
  intro H enc W base args ds ps hval hA
  rw [Tryz.params4] at hA hval
  obtain ⟨v0, v1, v2, v3, d0, d1, d2, d3, p0, p1, p2, p3, rfl, rfl, rfl, h0, h1, h2, h3⟩ := trodAll_four hA
  obtain ⟨k, rfl, rfl, rfl, w0⟩ := open_int Tryz.underlying5 (hval 0 5 v0 rfl rfl) h0
  obtain ⟨A, key, c, rfl, hkey, hb⟩ := arg_bytes (hval 1 22 v1 rfl rfl) h1
  obtain ⟨part, rfl, rfl, rfl, w2⟩ := open_int Tryz.underlying21 (hval 2 21 v2 rfl rfl) h2
  obtain ⟨n, rfl, rfl, rfl, w3⟩ := open_int Tryz.underlying21 (hval 3 21 v3 rfl rfl) h3
  have hk := u8_in w0
  exact (fnPartition_walk k part n A c key W hkey hb hk.1 hk.2 (i32_in' w3).2).mono fun e W' ⟨h1, h2⟩ => ⟨h1, h2.below⟩
set_option maxRecDepth 100000 in
theorem fnPartition_lifted (os : Os) (started : os.Started) (H : Type) (enc : TypeId × Value → H) :
    ReturnsInHanded {} Tryz.checked os 4 .any (Rows.fnPartitionSpec.pre6 enc Tryz.prog Tryz.f4 Rows.fnPartitionRow.domain false) (Rows.fnPartitionSpec.post enc Tryz.prog Tryz.f4 false true false false) :=
  law_lifted fnPartition_law Tryz.func4 (by kernel_rfl) os started (by rw [Tryz.params4]; decide +kernel) (by kernel_rfl) rfl
    (fun ds hd => by
      have hd : ds.length = 4 := hd
      match ds, hd with
      | [d0, d1, d2, d3], _ => rfl)
    (ChangeSpec.witness6 (enc := enc) (C := Tryz.checked) false ⟨#[], #[.int .u8 0, .slice none 0 0, .int .i32 0, .int .i32 0], []⟩ 8 (by kernel_rfl) (by kernel_rfl) (by kernel_rfl) (by kernel_rfl))
/-- For every input FnPartition returns true; its arguments read as they did. -/
theorem fnPartition_holds : Rows.FnPartitionSaid :=
  OpenClaim.holds_of_wide 4 Tryz.f4 rfl rfl rfl rfl rfl rfl rfl ⟨rfl, rfl, rfl, rfl, rfl⟩ rfl rfl rfl rfl rfl (by kernel_rfl) Tryz.func4 (by kernel_rfl)
    (of_decide_eq_true (by kernel_rfl)) (by unfold Func.isWrapper; first | (rw [if_pos (by decide +kernel)]; kernel_rfl) | (rw [if_neg (by decide +kernel)]; exact ⟨rfl, rfl⟩))
    (fun os started H enc _ => fnPartition_lifted os started H enc)
#print axioms fnPartition_holds
end Go.Proofs.YtghgffhcdnmpnaaGreat
