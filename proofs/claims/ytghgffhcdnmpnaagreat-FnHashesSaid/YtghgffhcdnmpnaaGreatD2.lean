/-
  FnHashes: keys that are the same have the same partition, whatever else the message has; one of one partition is 0. No condition: for every input.
-/
import Derived.Test.YtghgffhcdnmpnaaGreatD1
namespace Go.Proofs.YtghgffhcdnmpnaaGreat
open Go.ChangeShapes Go.WideShapes Go.ChangeAt Go.RowKit
theorem ansOf_part (kind : Nat) (hk : kind < 4) (key : List Int) (a b n : Int) : ansOf kind key a n = ansOf kind key b n := by
  rcases (by omega : kind = 0 ∨ kind = 1 ∨ kind = 2 ∨ kind = 3) with rfl | rfl | rfl | rfl <;> rfl
theorem info5' : (Tryz.prog.info? 5).map (fun i => (i.zero, i.size, i.bytes)) = some (some (.int .u8 0), 1, 1) := info5
theorem ansOf_one (kind : Nat) (hk : kind < 4) (key : List Int) (a : Int) : ansOf kind key a 1 = 0 := by
  have := ansOf_in kind hk key a 1 (by omega)
  omega
set_option maxRecDepth 100000 in
set_option maxHeartbeats 3200000 in
theorem fnHashes_walk (k pa pb n : Int) (A : Option Addr) (c : Nat) (key : List Int) (w : World) (hkey : SlIs w 1 A key.length (bytesV key)) (hb : ∀ x ∈ key, isB x) (hk0 : 0 ≤ k) (hk1 : k ≤ 255) (hn : n ≤ 2147483647) :
    Calls Tryz.prog 3 #[.int .u8 k, .slice A key.length c, .int .i32 pa, .int .i32 pb, .int .i32 n] w fun e w' => e = .returned (.bool true) ∧ Kept [] w w' := by
  have HG := Lib.hid groupAlive_any
  have h63 := hkey.2.1
  by_cases h1 : key.length ≤ 2147483647
  · by_cases h2 : key.length ≤ 100 ∧ 1 ≤ n
    · obtain ⟨h2, h3⟩ := h2
      obtain ⟨kk, hkk, hke⟩ := kind4 hk0
      have hP := fun (W : World) (hW : Kept [] w W) => partition_any kk (by omega) key pa n A c W (hkey.kept0 hW) ⟨h2, hb⟩ h3 hn
      have hQ := fun (W : World) (A' : Option Addr) (c' : Nat) (hW : SlIs W 1 A' key.length (bytesV key)) => partition_any kk (by omega) key pb n A' c' W hW ⟨h2, hb⟩ h3 hn
      have hR := fun (W : World) (hW : Kept [] w W) => partition_any kk (by omega) key pa 1 A c W (hkey.kept0 hW) ⟨h2, hb⟩ (by omega) (by omega)
      obtain ⟨r, hr⟩ : ∃ r, ansOf kk key pa n = r := ⟨_, rfl⟩
      have hin := ansOf_in kk hkk key pa n h3
      have hQr : ansOf kk key pb n = r := by rw [ansOf_part kk hkk key pb pa n, hr]
      rw [hr] at hP hin
      rw [hQr] at hQ
      rw [ansOf_one kk hkk] at hR
      rw [← hke] at hP hQ hR
      have HP := Lib.hid hP
      have HQ := Lib.hid hQ
      have HR := Lib.hid hR
      have HKEY := Lib.hid hkey
      obtain ⟨r0, r1⟩ := hin
      clear hP hQ hR hke hkey hb hr hkk h1 hQr
      go_enter Tryz.func3, Tryz.ntmps3
      have HOWN : Hid (∀ W : World, Kept [] w W → (W.alloc (.cells #[] 5)).ownsRow w.heap.size 5 1 (.slice (some ⟨W.heap.size, 0, none⟩) 0 0) 0 [] ∧ SlIs (W.alloc (.cells #[] 5)) 1 A key.length (bytesV key)) := fun W hW => ⟨⟨rfl, .inr ⟨W.heap.size, 0, #[], rfl, hW.size, heap_alloc_new _ _, Nat.le_refl _, by simp [maxLen], rfl, rfl⟩⟩, HKEY.out.kept0 (hW.alloc _)⟩
      go_wp2_with (first | (with_reducible refine (HP.out _ (Kept.refl _ _)).mono ?_; rintro e w1 ⟨rfl, hk1⟩; have HK1 := Lib.hid hk1; clear hk1) | (at_builtin; refine wl_append rfl _ _ 22 rfl w.heap.size 5 Tryz.underlying22 info5 rfl (by decide) _ 0 [] rfl (HOWN.out w1 HK1.out).1 A key.length c (bytesV key) rfl (HOWN.out w1 HK1.out).2 (bytesV_one _) (by omega) (by omega) (by have := HK1.out.size; simp; omega) ?_; intro v2 w2 hown2 hk2 _; obtain ⟨A2, c2, hv2, hsl2, _⟩ := own_sl hown2; simp only [Nat.zero_add, List.nil_append] at hv2 hsl2; subst hv2; have HSL2 := Lib.hid hsl2; have HK2 := Lib.hid ((HK1.out.alloc (.cells #[] 5)).trans hk2 (fun x hx => .inr (by have := HK1.out.size; have hx : x ∈ [w1.heap.size] := hx; have := List.mem_singleton.1 hx; omega))); clear hown2 hk2 hsl2) | (with_reducible refine (HQ.out _ _ _ HSL2.out).mono ?_; rintro e w3 ⟨rfl, hk3⟩; have HK3 := Lib.hid (HK2.out.trans0 hk3); clear hk3) | (with_reducible refine (HR.out _ HK3.out).mono ?_; rintro e w4 ⟨rfl, hk4⟩; have HK4 := Lib.hid (HK3.out.trans0 hk4); clear hk4) | (with_reducible refine (HG.out _).mono ?_; rintro e w5 ⟨rfl, hk5⟩; have HK5 := Lib.hid (HK4.out.trans0 hk5); clear hk5))
      go_ret
      exact ⟨rfl, HK5.out⟩
    · clear hkey hb
      rcases (by omega : 100 < key.length ∨ (key.length ≤ 100 ∧ n < 1)) with h3 | ⟨h3, h4⟩
      · clear h2
        go_enter Tryz.func3, Tryz.ntmps3
        go_wp2_with (with_reducible refine (HG.out _).mono ?_; rintro e w2 ⟨rfl, hk2⟩; have HK2 := Lib.hid hk2; clear hk2)
        go_ret
        exact ⟨rfl, HK2.out⟩
      · clear h2
        go_enter Tryz.func3, Tryz.ntmps3
        go_wp2_with (with_reducible refine (HG.out _).mono ?_; rintro e w2 ⟨rfl, hk2⟩; have HK2 := Lib.hid hk2; clear hk2)
        go_ret
        exact ⟨rfl, HK2.out⟩
  · clear hkey hb
    go_enter Tryz.func3, Tryz.ntmps3
    go_wp2
    go_ret
    exact ⟨rfl, Kept.refl _ _⟩
set_option maxRecDepth 100000 in
theorem fnHashes_law : LawWalk 3 Tryz.f3 := by
  intro H enc W base args ds ps hval hA
  rw [Tryz.params3] at hA hval
  obtain ⟨v0, vs0, d0, ds0, p0, q0, hargs, rfl, rfl, h0, r0⟩ := trodAll_cons hA
  obtain ⟨v1, v2, v3, v4, d1, d2, d3, d4, p1, p2, p3, p4, hv, rfl, rfl, h1, h2, h3, h4⟩ := trodAll_four (args := vs0.toArray) (by simpa using r0)
  obtain rfl : args = #[v0, v1, v2, v3, v4] := by
    have e : vs0 = [v1, v2, v3, v4] := by simpa using congrArg Array.toList hv
    subst e
    cases args
    simp_all
  obtain ⟨k, rfl, rfl, rfl, w0⟩ := open_int Tryz.underlying5 (hval 0 5 v0 rfl rfl) h0
  obtain ⟨A, key, c, rfl, hkey, hb⟩ := arg_bytes (hval 1 22 v1 rfl rfl) h1
  obtain ⟨pa, rfl, rfl, rfl, w2⟩ := open_int Tryz.underlying21 (hval 2 21 v2 rfl rfl) h2
  obtain ⟨pb, rfl, rfl, rfl, w3⟩ := open_int Tryz.underlying21 (hval 3 21 v3 rfl rfl) h3
  obtain ⟨n, rfl, rfl, rfl, w4⟩ := open_int Tryz.underlying21 (hval 4 21 v4 rfl rfl) h4
  have hk := u8_in w0
  exact (fnHashes_walk k pa pb n A c key W hkey hb hk.1 hk.2 (i32_in' w4).2).mono fun e W' ⟨h1, h2⟩ => ⟨h1, h2.below⟩
set_option maxRecDepth 100000 in
theorem fnHashes_lifted (os : Os) (started : os.Started) (H : Type) (enc : TypeId × Value → H) :
    ReturnsInHanded {} Tryz.checked os 3 .any (Rows.fnHashesSpec.pre6 enc Tryz.prog Tryz.f3 Rows.fnHashesRow.domain false) (Rows.fnHashesSpec.post enc Tryz.prog Tryz.f3 false true false false) :=
  law_lifted fnHashes_law Tryz.func3 (by kernel_rfl) os started (by rw [Tryz.params3]; decide +kernel) (by kernel_rfl) rfl
    (fun ds hd => by
      have hd : ds.length = 5 := hd
      match ds, hd with
      | [d0, d1, d2, d3, d4], _ => rfl)
    (ChangeSpec.witness6 (enc := enc) (C := Tryz.checked) false ⟨#[], #[.int .u8 0, .slice none 0 0, .int .i32 0, .int .i32 0, .int .i32 0], []⟩ 8 (by kernel_rfl) (by kernel_rfl) (by kernel_rfl) (by kernel_rfl))
/-- For every input FnHashes returns true; its arguments read as they did. -/
theorem fnHashes_holds : Rows.FnHashesSaid :=
  OpenClaim.holds_of_wide 3 Tryz.f3 rfl rfl rfl rfl rfl rfl rfl ⟨rfl, rfl, rfl, rfl, rfl⟩ rfl rfl rfl rfl rfl (by kernel_rfl) Tryz.func3 (by kernel_rfl)
    (of_decide_eq_true (by kernel_rfl)) (by unfold Func.isWrapper; first | (rw [if_pos (by decide +kernel)]; kernel_rfl) | (rw [if_neg (by decide +kernel)]; exact ⟨rfl, rfl⟩))
    (fun os started H enc _ => fnHashes_lifted os started H enc)
#print axioms fnHashes_holds
end Go.Proofs.YtghgffhcdnmpnaaGreat
