/-
  The specification's form of a datum (44), kind by kind. Conditions: a right datum.
-/
import Derived.Test.YtmpjikihnmagoaaGreatDoorZT39
set_option maxRecDepth 100000
set_option maxHeartbeats 3200000
namespace Go.Proofs.YtmpjikihnmagoaaGreatDoor
open Go.RowKit
theorem sb_0 (fl : Bool) (x : St) (hx : RightB x) (h64 : ∀ y ∈ x.nums, Num64 y) (hkind : x.kind = 0) {X : Nat → Prop} (A1 A2 A3 : Option Addr) (c1 c2 c3 : Nat) (w : World) (hw : StW X w x A1 A2 A3) : Calls Tryz.prog 44 #[.agg (stCells x A1 A2 A3 c1 c2 c3).toArray, .bool fl] w (StepR (stepB fl x) (stepB fl x).length w):=by
 obtain ⟨kind, n, s, null, b, texts, nums⟩:=x
 simp only at hkind
 subst hkind
 have hnull : null = false:=by
  cases null with
  | false => rfl
  | true => exact absurd (hx.null rfl).1 (by simp)
 subst hnull
 have hb3 : b.length ≤ 300:=hx.b300
 have hs2 : s.size ≤ 200:=hx.s200
 have hi : Num64 n:=hx.i64
 have HB:=lh hw.b
 have HT:=lh hw.t
 have HN:=lh hw.n
 have HC : Hid (∀ W : World, Calls Tryz.prog 37 #[.int .i64 n, .int .i64 1] W (BytesR (big 1 n) 1 W)):=lh (fun W => big_any W n 1 (by omega) hi)
 clear hw hx h64 hi
 show Calls Tryz.prog 44 #[.agg #[.int .i64 0, .int .i64 n, .string s, .bool false, .slice A1 b.length c1, .slice A2 texts.length c2, .slice A3 nums.length c3], .bool fl] w _
 go_enter Tryz.func44, Tryz.ntmps44
 go_wp2_with ((with_reducible refine (HC.out _).mono ?_); rintro e w1 ⟨v1, rfl, ho1, hk1⟩; have HO1:=lh ho1; have HK1:=lh (((Kept.refl [] w).alloc _).trans0 hk1); clear ho1 hk1)
 go_ret
 exact stepR_of HO1.out HK1.out
theorem sb_1 (fl : Bool) (x : St) (hx : RightB x) (h64 : ∀ y ∈ x.nums, Num64 y) (hkind : x.kind = 1) {X : Nat → Prop} (A1 A2 A3 : Option Addr) (c1 c2 c3 : Nat) (w : World) (hw : StW X w x A1 A2 A3) : Calls Tryz.prog 44 #[.agg (stCells x A1 A2 A3 c1 c2 c3).toArray, .bool fl] w (StepR (stepB fl x) (stepB fl x).length w):=by
 obtain ⟨kind, n, s, null, b, texts, nums⟩:=x
 simp only at hkind
 subst hkind
 have hnull : null = false:=by
  cases null with
  | false => rfl
  | true => exact absurd (hx.null rfl).1 (by simp)
 subst hnull
 have hb3 : b.length ≤ 300:=hx.b300
 have hs2 : s.size ≤ 200:=hx.s200
 have hi : Num64 n:=hx.i64
 have HB:=lh hw.b
 have HT:=lh hw.t
 have HN:=lh hw.n
 have HC : Hid (∀ W : World, Calls Tryz.prog 37 #[.int .i64 n, .int .i64 2] W (BytesR (big 2 n) 2 W)):=lh (fun W => big_any W n 2 (by omega) hi)
 clear hw hx h64 hi
 show Calls Tryz.prog 44 #[.agg #[.int .i64 1, .int .i64 n, .string s, .bool false, .slice A1 b.length c1, .slice A2 texts.length c2, .slice A3 nums.length c3], .bool fl] w _
 go_enter Tryz.func44, Tryz.ntmps44
 go_wp2_with ((with_reducible refine (HC.out _).mono ?_); rintro e w1 ⟨v1, rfl, ho1, hk1⟩; have HO1:=lh ho1; have HK1:=lh (((Kept.refl [] w).alloc _).trans0 hk1); clear ho1 hk1)
 go_ret
 exact stepR_of HO1.out HK1.out
theorem sb_2 (fl : Bool) (x : St) (hx : RightB x) (h64 : ∀ y ∈ x.nums, Num64 y) (hkind : x.kind = 2) {X : Nat → Prop} (A1 A2 A3 : Option Addr) (c1 c2 c3 : Nat) (w : World) (hw : StW X w x A1 A2 A3) : Calls Tryz.prog 44 #[.agg (stCells x A1 A2 A3 c1 c2 c3).toArray, .bool fl] w (StepR (stepB fl x) (stepB fl x).length w):=by
 obtain ⟨kind, n, s, null, b, texts, nums⟩:=x
 simp only at hkind
 subst hkind
 have hnull : null = false:=by
  cases null with
  | false => rfl
  | true => exact absurd (hx.null rfl).1 (by simp)
 subst hnull
 have hb3 : b.length ≤ 300:=hx.b300
 have hs2 : s.size ≤ 200:=hx.s200
 have hi : Num64 n:=hx.i64
 have HB:=lh hw.b
 have HT:=lh hw.t
 have HN:=lh hw.n
 have HC : Hid (∀ W : World, Calls Tryz.prog 37 #[.int .i64 n, .int .i64 4] W (BytesR (big 4 n) 4 W)):=lh (fun W => big_any W n 4 (by omega) hi)
 clear hw hx h64 hi
 show Calls Tryz.prog 44 #[.agg #[.int .i64 2, .int .i64 n, .string s, .bool false, .slice A1 b.length c1, .slice A2 texts.length c2, .slice A3 nums.length c3], .bool fl] w _
 go_enter Tryz.func44, Tryz.ntmps44
 go_wp2_with ((with_reducible refine (HC.out _).mono ?_); rintro e w1 ⟨v1, rfl, ho1, hk1⟩; have HO1:=lh ho1; have HK1:=lh (((Kept.refl [] w).alloc _).trans0 hk1); clear ho1 hk1)
 go_ret
 exact stepR_of HO1.out HK1.out
theorem sb_3 (fl : Bool) (x : St) (hx : RightB x) (h64 : ∀ y ∈ x.nums, Num64 y) (hkind : x.kind = 3) {X : Nat → Prop} (A1 A2 A3 : Option Addr) (c1 c2 c3 : Nat) (w : World) (hw : StW X w x A1 A2 A3) : Calls Tryz.prog 44 #[.agg (stCells x A1 A2 A3 c1 c2 c3).toArray, .bool fl] w (StepR (stepB fl x) (stepB fl x).length w):=by
 obtain ⟨kind, n, s, null, b, texts, nums⟩:=x
 simp only at hkind
 subst hkind
 have hnull : null = false:=by
  cases null with
  | false => rfl
  | true => exact absurd (hx.null rfl).1 (by simp)
 subst hnull
 have hb3 : b.length ≤ 300:=hx.b300
 have hs2 : s.size ≤ 200:=hx.s200
 have hi : Num64 n:=hx.i64
 have HB:=lh hw.b
 have HT:=lh hw.t
 have HN:=lh hw.n
 have HC : Hid (∀ W : World, Calls Tryz.prog 37 #[.int .i64 n, .int .i64 8] W (BytesR (big 8 n) 8 W)):=lh (fun W => big_any W n 8 (by omega) hi)
 clear hw hx h64 hi
 show Calls Tryz.prog 44 #[.agg #[.int .i64 3, .int .i64 n, .string s, .bool false, .slice A1 b.length c1, .slice A2 texts.length c2, .slice A3 nums.length c3], .bool fl] w _
 go_enter Tryz.func44, Tryz.ntmps44
 go_wp2_with ((with_reducible refine (HC.out _).mono ?_); rintro e w1 ⟨v1, rfl, ho1, hk1⟩; have HO1:=lh ho1; have HK1:=lh (((Kept.refl [] w).alloc _).trans0 hk1); clear ho1 hk1)
 go_ret
 exact stepR_of HO1.out HK1.out
theorem sb_6 (fl : Bool) (x : St) (hx : RightB x) (h64 : ∀ y ∈ x.nums, Num64 y) (hkind : x.kind = 6) {X : Nat → Prop} (A1 A2 A3 : Option Addr) (c1 c2 c3 : Nat) (w : World) (hw : StW X w x A1 A2 A3) : Calls Tryz.prog 44 #[.agg (stCells x A1 A2 A3 c1 c2 c3).toArray, .bool fl] w (StepR (stepB fl x) (stepB fl x).length w):=by
 obtain ⟨kind, n, s, null, b, texts, nums⟩:=x
 simp only at hkind
 subst hkind
 have hnull : null = false:=by
  cases null with
  | false => rfl
  | true => exact absurd (hx.null rfl).1 (by simp)
 subst hnull
 have hb3 : b.length ≤ 300:=hx.b300
 have hs2 : s.size ≤ 200:=hx.s200
 have hi : Num64 n:=hx.i64
 have HB:=lh hw.b
 have HT:=lh hw.t
 have HN:=lh hw.n
 have HC : Hid (∀ W : World, Calls Tryz.prog 37 #[.int .i64 n, .int .i64 8] W (BytesR (big 8 n) 8 W)):=lh (fun W => big_any W n 8 (by omega) hi)
 clear hw hx h64 hi
 show Calls Tryz.prog 44 #[.agg #[.int .i64 6, .int .i64 n, .string s, .bool false, .slice A1 b.length c1, .slice A2 texts.length c2, .slice A3 nums.length c3], .bool fl] w _
 go_enter Tryz.func44, Tryz.ntmps44
 go_wp2_with ((with_reducible refine (HC.out _).mono ?_); rintro e w1 ⟨v1, rfl, ho1, hk1⟩; have HO1:=lh ho1; have HK1:=lh (((Kept.refl [] w).alloc _).trans0 hk1); clear ho1 hk1)
 go_ret
 exact stepR_of HO1.out HK1.out
theorem sb_4 (fl : Bool) (x : St) (hx : RightB x) (h64 : ∀ y ∈ x.nums, Num64 y) (hkind : x.kind = 4) {X : Nat → Prop} (A1 A2 A3 : Option Addr) (c1 c2 c3 : Nat) (w : World) (hw : StW X w x A1 A2 A3) : Calls Tryz.prog 44 #[.agg (stCells x A1 A2 A3 c1 c2 c3).toArray, .bool fl] w (StepR (stepB fl x) (stepB fl x).length w):=by
 obtain ⟨kind, n, s, null, b, texts, nums⟩:=x
 simp only at hkind
 subst hkind
 have hnull : null = false:=by
  cases null with
  | false => rfl
  | true => exact absurd (hx.null rfl).1 (by simp)
 subst hnull
 have hb3 : b.length ≤ 300:=hx.b300
 have hs2 : s.size ≤ 200:=hx.s200
 have hi : Num64 n:=hx.i64
 have HB:=lh hw.b
 have HT:=lh hw.t
 have HN:=lh hw.n
 have HC:=lh (fun W => varint_any W n hi)
 clear hw hx h64 hi
 show Calls Tryz.prog 44 #[.agg #[.int .i64 4, .int .i64 n, .string s, .bool false, .slice A1 b.length c1, .slice A2 texts.length c2, .slice A3 nums.length c3], .bool fl] w _
 go_enter Tryz.func44, Tryz.ntmps44
 go_wp2_with ((with_reducible refine (HC.out _).mono ?_); rintro e w1 ⟨v1, rfl, ho1, hk1⟩; have HO1:=lh ho1; have HK1:=lh (((Kept.refl [] w).alloc _).trans0 hk1); clear ho1 hk1)
 go_ret
 exact stepR_of HO1.out HK1.out
theorem sb_5 (fl : Bool) (x : St) (hx : RightB x) (h64 : ∀ y ∈ x.nums, Num64 y) (hkind : x.kind = 5) {X : Nat → Prop} (A1 A2 A3 : Option Addr) (c1 c2 c3 : Nat) (w : World) (hw : StW X w x A1 A2 A3) : Calls Tryz.prog 44 #[.agg (stCells x A1 A2 A3 c1 c2 c3).toArray, .bool fl] w (StepR (stepB fl x) (stepB fl x).length w):=by
 obtain ⟨kind, n, s, null, b, texts, nums⟩:=x
 simp only at hkind
 subst hkind
 have hnull : null = false:=by
  cases null with
  | false => rfl
  | true => exact absurd (hx.null rfl).1 (by simp)
 subst hnull
 have hb3 : b.length ≤ 300:=hx.b300
 have hs2 : s.size ≤ 200:=hx.s200
 have hi : Num64 n:=hx.i64
 have HB:=lh hw.b
 have HT:=lh hw.t
 have HN:=lh hw.n
 have hcv : IntKind.u64.wrap n = ((u64 n : Nat) : Int):=by
  rw [IntKind.wrap_u64]
  unfold u64
  omega
 have HC:=lh (fun W => uv_any W (u64 n) (u64_lt n))
 clear hw hx h64 hi
 show Calls Tryz.prog 44 #[.agg #[.int .i64 5, .int .i64 n, .string s, .bool false, .slice A1 b.length c1, .slice A2 texts.length c2, .slice A3 nums.length c3], .bool fl] w _
 go_enter Tryz.func44, Tryz.ntmps44
 go_wp2_with ((with_reducible refine (HC.out _).mono ?_); rintro e w1 ⟨v1, rfl, ho1, hk1⟩; have HO1:=lh ho1; have HK1:=lh (((Kept.refl [] w).alloc _).trans0 hk1); clear ho1 hk1)
 go_ret
 exact stepR_of HO1.out HK1.out
theorem sb_8 (fl : Bool) (x : St) (hx : RightB x) (h64 : ∀ y ∈ x.nums, Num64 y) (hkind : x.kind = 8) {X : Nat → Prop} (A1 A2 A3 : Option Addr) (c1 c2 c3 : Nat) (w : World) (hw : StW X w x A1 A2 A3) : Calls Tryz.prog 44 #[.agg (stCells x A1 A2 A3 c1 c2 c3).toArray, .bool fl] w (StepR (stepB fl x) (stepB fl x).length w):=by
 obtain ⟨kind, n, s, null, b, texts, nums⟩:=x
 simp only at hkind
 subst hkind
 have hnull : null = false:=by
  cases null with
  | false => rfl
  | true => exact absurd (hx.null rfl).1 (by simp)
 subst hnull
 have hb3 : b.length ≤ 300:=hx.b300
 have hs2 : s.size ≤ 200:=hx.s200
 have hi : Num64 n:=hx.i64
 have HB:=lh hw.b
 have HT:=lh hw.t
 have HN:=lh hw.n
 have HC : Hid (∀ W : World, Calls Tryz.prog 74 #[.int .i64 n, .int .i64 4, .bool fl] W (BytesR (lenB fl n 4) (lenB fl n 4).length W)):=lh (fun W => length_any fl W n 4 (by omega) (by have:=(hx.arr rfl).1; simp only at this; omega) (by have:=(hx.arr rfl).2; simp only at this; omega))
 clear hw hx h64 hi
 show Calls Tryz.prog 44 #[.agg #[.int .i64 8, .int .i64 n, .string s, .bool false, .slice A1 b.length c1, .slice A2 texts.length c2, .slice A3 nums.length c3], .bool fl] w _
 go_enter Tryz.func44, Tryz.ntmps44
 go_wp2_with ((with_reducible refine (HC.out _).mono ?_); rintro e w1 ⟨v1, rfl, ho1, hk1⟩; have HO1:=lh ho1; have HK1:=lh (((Kept.refl [] w).alloc _).trans0 hk1); clear ho1 hk1)
 go_ret
 exact stepR_of HO1.out HK1.out
theorem sb_10n (fl : Bool) (x : St) (hx : RightB x) (h64 : ∀ y ∈ x.nums, Num64 y) (hkind : x.kind = 10) (hnull : x.null = true) {X : Nat → Prop} (A1 A2 A3 : Option Addr) (c1 c2 c3 : Nat) (w : World) (hw : StW X w x A1 A2 A3) : Calls Tryz.prog 44 #[.agg (stCells x A1 A2 A3 c1 c2 c3).toArray, .bool fl] w (StepR (stepB fl x) (stepB fl x).length w):=by
 obtain ⟨kind, n, s, null, b, texts, nums⟩:=x
 simp only at hkind
 subst hkind
 simp only at hnull
 subst hnull
 have hb3 : b.length ≤ 300:=hx.b300
 have hs2 : s.size ≤ 200:=hx.s200
 have hi : Num64 n:=hx.i64
 have HB:=lh hw.b
 have HT:=lh hw.t
 have HN:=lh hw.n
 have HC : Hid (∀ W : World, Calls Tryz.prog 74 #[.int .i64 (-1), .int .i64 2, .bool fl] W (BytesR (lenB fl (-1) 2) (lenB fl (-1) 2).length W)):=lh (fun W => length_any fl W (-1) 2 (by omega) (by omega) (by omega))
 clear hw hx h64 hi
 show Calls Tryz.prog 44 #[.agg #[.int .i64 10, .int .i64 n, .string s, .bool true, .slice A1 b.length c1, .slice A2 texts.length c2, .slice A3 nums.length c3], .bool fl] w _
 go_enter Tryz.func44, Tryz.ntmps44
 go_wp2_with ((with_reducible refine (HC.out _).mono ?_); rintro e w1 ⟨v1, rfl, ho1, hk1⟩; have HO1:=lh ho1; have HK1:=lh (((Kept.refl [] w).alloc _).trans0 hk1); clear ho1 hk1)
 go_ret
 exact stepR_of HO1.out HK1.out
theorem sb_11n (fl : Bool) (x : St) (hx : RightB x) (h64 : ∀ y ∈ x.nums, Num64 y) (hkind : x.kind = 11) (hnull : x.null = true) {X : Nat → Prop} (A1 A2 A3 : Option Addr) (c1 c2 c3 : Nat) (w : World) (hw : StW X w x A1 A2 A3) : Calls Tryz.prog 44 #[.agg (stCells x A1 A2 A3 c1 c2 c3).toArray, .bool fl] w (StepR (stepB fl x) (stepB fl x).length w):=by
 obtain ⟨kind, n, s, null, b, texts, nums⟩:=x
 simp only at hkind
 subst hkind
 simp only at hnull
 subst hnull
 have hb3 : b.length ≤ 300:=hx.b300
 have hs2 : s.size ≤ 200:=hx.s200
 have hi : Num64 n:=hx.i64
 have HB:=lh hw.b
 have HT:=lh hw.t
 have HN:=lh hw.n
 have HC : Hid (∀ W : World, Calls Tryz.prog 74 #[.int .i64 (-1), .int .i64 4, .bool fl] W (BytesR (lenB fl (-1) 4) (lenB fl (-1) 4).length W)):=lh (fun W => length_any fl W (-1) 4 (by omega) (by omega) (by omega))
 clear hw hx h64 hi
 show Calls Tryz.prog 44 #[.agg #[.int .i64 11, .int .i64 n, .string s, .bool true, .slice A1 b.length c1, .slice A2 texts.length c2, .slice A3 nums.length c3], .bool fl] w _
 go_enter Tryz.func44, Tryz.ntmps44
 go_wp2_with ((with_reducible refine (HC.out _).mono ?_); rintro e w1 ⟨v1, rfl, ho1, hk1⟩; have HO1:=lh ho1; have HK1:=lh (((Kept.refl [] w).alloc _).trans0 hk1); clear ho1 hk1)
 go_ret
 exact stepR_of HO1.out HK1.out
theorem sb_12n (fl : Bool) (x : St) (hx : RightB x) (h64 : ∀ y ∈ x.nums, Num64 y) (hkind : x.kind = 12) (hnull : x.null = true) {X : Nat → Prop} (A1 A2 A3 : Option Addr) (c1 c2 c3 : Nat) (w : World) (hw : StW X w x A1 A2 A3) : Calls Tryz.prog 44 #[.agg (stCells x A1 A2 A3 c1 c2 c3).toArray, .bool fl] w (StepR (stepB fl x) (stepB fl x).length w):=by
 obtain ⟨kind, n, s, null, b, texts, nums⟩:=x
 simp only at hkind
 subst hkind
 simp only at hnull
 subst hnull
 have hb3 : b.length ≤ 300:=hx.b300
 have hs2 : s.size ≤ 200:=hx.s200
 have hi : Num64 n:=hx.i64
 have HB:=lh hw.b
 have HT:=lh hw.t
 have HN:=lh hw.n
 have HC:=lh (fun W => varBytes_null W A1 b.length c1)
 clear hw hx h64 hi
 show Calls Tryz.prog 44 #[.agg #[.int .i64 12, .int .i64 n, .string s, .bool true, .slice A1 b.length c1, .slice A2 texts.length c2, .slice A3 nums.length c3], .bool fl] w _
 go_enter Tryz.func44, Tryz.ntmps44
 go_wp2_with ((with_reducible refine (HC.out _).mono ?_); rintro e w1 ⟨v1, rfl, ho1, hk1⟩; have HO1:=lh ho1; have HK1:=lh (((Kept.refl [] w).alloc _).trans0 hk1); clear ho1 hk1)
 go_ret
 exact stepR_of HO1.out HK1.out
theorem sb_12 (fl : Bool) (x : St) (hx : RightB x) (h64 : ∀ y ∈ x.nums, Num64 y) (hkind : x.kind = 12) (hnull : x.null = false) {X : Nat → Prop} (A1 A2 A3 : Option Addr) (c1 c2 c3 : Nat) (w : World) (hw : StW X w x A1 A2 A3) : Calls Tryz.prog 44 #[.agg (stCells x A1 A2 A3 c1 c2 c3).toArray, .bool fl] w (StepR (stepB fl x) (stepB fl x).length w):=by
 obtain ⟨kind, n, s, null, b, texts, nums⟩:=x
 simp only at hkind
 subst hkind
 simp only at hnull
 subst hnull
 have hb3 : b.length ≤ 300:=hx.b300
 have hs2 : s.size ≤ 200:=hx.s200
 have hi : Num64 n:=hx.i64
 have HB:=lh hw.b
 have HT:=lh hw.t
 have HN:=lh hw.n
 have hbl : b.length = b.length:=rfl
 obtain ⟨nb, hnb⟩ : ∃ nb, b.length = nb:=⟨_, rfl⟩
 have HBW:=lh (fun W (hk : Kept [] w W) => varBytes_any W A1 nb c1 b hnb (by omega) ((by rw [← hnb]; exact HB.out.kept0 hk)))
 clear hw hx h64 hi hbl
 show Calls Tryz.prog 44 #[.agg #[.int .i64 12, .int .i64 n, .string s, .bool false, .slice A1 b.length c1, .slice A2 texts.length c2, .slice A3 nums.length c3], .bool fl] w _
 rw [hnb]
 have HNB:=lh hnb
 clear hnb
 go_enter Tryz.func44, Tryz.ntmps44
 go_wp2_with ((with_reducible refine (HBW.out _ ((Kept.refl [] w).alloc _)).mono ?_); rintro e w1 ⟨v1, rfl, ho1, hk1⟩; have HO1:=lh ho1; have HK1:=lh (((Kept.refl [] w).alloc _).trans0 hk1); clear ho1 hk1)
 go_ret
 have ho:=HO1.out
 have hn:=HNB.out
 subst hn
 exact stepR_of ho HK1.out
theorem sb_7_0 (fl : Bool) (x : St) (hx : RightB x) (h64 : ∀ y ∈ x.nums, Num64 y) (hkind : x.kind = 7) (hn01 : x.n = 0) {X : Nat → Prop} (A1 A2 A3 : Option Addr) (c1 c2 c3 : Nat) (w : World) (hw : StW X w x A1 A2 A3) : Calls Tryz.prog 44 #[.agg (stCells x A1 A2 A3 c1 c2 c3).toArray, .bool fl] w (StepR (stepB fl x) (stepB fl x).length w):=by
 obtain ⟨kind, n, s, null, b, texts, nums⟩:=x
 simp only at hkind
 subst hkind
 have hnull : null = false:=by
  cases null with
  | false => rfl
  | true => exact absurd (hx.null rfl).1 (by simp)
 subst hnull
 have hb3 : b.length ≤ 300:=hx.b300
 have hs2 : s.size ≤ 200:=hx.s200
 have hi : Num64 n:=hx.i64
 have HB:=lh hw.b
 have HT:=lh hw.t
 have HN:=lh hw.n
 simp only at hn01
 subst hn01
 clear hw hx h64 hi
 show Calls Tryz.prog 44 #[.agg #[.int .i64 7, .int .i64 0, .string s, .bool false, .slice A1 b.length c1, .slice A2 texts.length c2, .slice A3 nums.length c3], .bool fl] w _
 go_enter Tryz.func44, Tryz.ntmps44
 go_wp2
 go_ret
 exact ⟨_, _, rfl, one_sl2 (w.alloc _) _ _ (alloc_size _ _), ((Kept.refl [] w).alloc _).alloc _⟩
theorem sb_7_1 (fl : Bool) (x : St) (hx : RightB x) (h64 : ∀ y ∈ x.nums, Num64 y) (hkind : x.kind = 7) (hn01 : x.n = 1) {X : Nat → Prop} (A1 A2 A3 : Option Addr) (c1 c2 c3 : Nat) (w : World) (hw : StW X w x A1 A2 A3) : Calls Tryz.prog 44 #[.agg (stCells x A1 A2 A3 c1 c2 c3).toArray, .bool fl] w (StepR (stepB fl x) (stepB fl x).length w):=by
 obtain ⟨kind, n, s, null, b, texts, nums⟩:=x
 simp only at hkind
 subst hkind
 have hnull : null = false:=by
  cases null with
  | false => rfl
  | true => exact absurd (hx.null rfl).1 (by simp)
 subst hnull
 have hb3 : b.length ≤ 300:=hx.b300
 have hs2 : s.size ≤ 200:=hx.s200
 have hi : Num64 n:=hx.i64
 have HB:=lh hw.b
 have HT:=lh hw.t
 have HN:=lh hw.n
 simp only at hn01
 subst hn01
 clear hw hx h64 hi
 show Calls Tryz.prog 44 #[.agg #[.int .i64 7, .int .i64 1, .string s, .bool false, .slice A1 b.length c1, .slice A2 texts.length c2, .slice A3 nums.length c3], .bool fl] w _
 go_enter Tryz.func44, Tryz.ntmps44
 go_wp2
 go_ret
 exact ⟨_, _, rfl, one_sl2 (w.alloc _) _ _ (alloc_size _ _), ((Kept.refl [] w).alloc _).alloc _⟩
theorem sb_16 (fl : Bool) (x : St) (hx : RightB x) (h64 : ∀ y ∈ x.nums, Num64 y) (hkind : x.kind = 16) {X : Nat → Prop} (A1 A2 A3 : Option Addr) (c1 c2 c3 : Nat) (w : World) (hw : StW X w x A1 A2 A3) : Calls Tryz.prog 44 #[.agg (stCells x A1 A2 A3 c1 c2 c3).toArray, .bool fl] w (StepR (stepB fl x) (stepB fl x).length w):=by
 obtain ⟨kind, n, s, null, b, texts, nums⟩:=x
 simp only at hkind
 subst hkind
 have hnull : null = false:=by
  cases null with
  | false => rfl
  | true => exact absurd (hx.null rfl).1 (by simp)
 subst hnull
 have hb3 : b.length ≤ 300:=hx.b300
 have hs2 : s.size ≤ 200:=hx.s200
 have hi : Num64 n:=hx.i64
 have HB:=lh hw.b
 have HT:=lh hw.t
 have HN:=lh hw.n
 clear hw hx h64 hi
 show Calls Tryz.prog 44 #[.agg #[.int .i64 16, .int .i64 n, .string s, .bool false, .slice A1 b.length c1, .slice A2 texts.length c2, .slice A3 nums.length c3], .bool fl] w _
 go_enter Tryz.func44, Tryz.ntmps44
 go_wp2
 go_ret
 exact ⟨_, _, rfl, HB.out.kept0 ((Kept.refl [] w).alloc _), (Kept.refl [] w).alloc _⟩
def sb20F (fl : Bool) (s : ByteArray) (_A1 : Option Addr) (_nb _c1 z8 z9 : Nat) (lb : List UInt8) (ix : Nat) (v : Value) (W : World) : Prop :=
 match ix with
 | 0 => v = .pointer (some ⟨z8, 2, none⟩)
 | 1 => v = .string s
 | 2 => v = .int .i64 s.size
 | 3 => v = .bool fl
 | 4 => W.ownsRow z9 5 1 v lb.length (Lib.byteCells lb)
 | 5 => v = .pointer (some ⟨z8, 2, none⟩)
 | 6 => v = .string s
 | _ => True
theorem sb20F_stable {fl s A1 nb c1 z8 z9 lb} : ∀ ix v w w', sb20F fl s A1 nb c1 z8 z9 lb ix v w → Kept [] w w' → sb20F fl s A1 nb c1 z8 z9 lb ix v w':=by
 intro ix v w w' h k
 unfold sb20F at h ⊢
 split at h <;> (first | (exact h) | (exact own_kept0 h k))
theorem sb_9 (fl : Bool) (x : St) (hx : RightB x) (h64 : ∀ y ∈ x.nums, Num64 y) (hkind : x.kind = 9) {X : Nat → Prop} (A1 A2 A3 : Option Addr) (c1 c2 c3 : Nat) (w : World) (hw : StW X w x A1 A2 A3) : Calls Tryz.prog 44 #[.agg (stCells x A1 A2 A3 c1 c2 c3).toArray, .bool fl] w (StepR (stepB fl x) (stepB fl x).length w):=by
 obtain ⟨kind, n, s, null, b, texts, nums⟩:=x
 simp only at hkind
 subst hkind
 have hnull : null = false:=by
  cases null with
  | false => rfl
  | true => exact absurd (hx.null rfl).1 (by simp)
 subst hnull
 have hb3 : b.length ≤ 300:=hx.b300
 have hs2 : s.size ≤ 200:=hx.s200
 have hi : Num64 n:=hx.i64
 have HB:=lh hw.b
 have HT:=lh hw.t
 have HN:=lh hw.n
 obtain ⟨nb, hnb⟩ : ∃ nb, b.length = nb:=⟨_, rfl⟩
 rw [hnb] at hb3
 have HC : Hid (∀ W : World, Calls Tryz.prog 74 #[.int .i64 s.size, .int .i64 2, .bool fl] W (BytesR (lenB fl (s.size : Int) 2) (lenB fl (s.size : Int) 2).length W)):=lh (fun W => length_any fl W (s.size : Int) 2 (by omega) (by omega) (by omega))
 have hll:=lenB_le fl (s.size : Int) 2
 obtain ⟨lb, hlb⟩ : ∃ lb, lenB fl (s.size : Int) 2 = lb:=⟨_, rfl⟩
 have HLB:=lh hlb
 rw [hlb] at HC hll
 have HNB:=lh hnb
 clear hw hx h64 hi hlb
 show Calls Tryz.prog 44 #[.agg #[.int .i64 9, .int .i64 n, .string s, .bool false, .slice A1 b.length c1, .slice A2 texts.length c2, .slice A3 nums.length c3], .bool fl] w _
 rw [hnb]
 rw [hnb] at HB
 clear hnb
 go_enter Tryz.func44, Tryz.ntmps44
 go_wp2
 obtain ⟨W3, hW3⟩ : ∃ W3, w.alloc (.cells #[.int .i64 9, .int .i64 n, .string s, .bool false, .slice A1 nb c1, .slice A2 texts.length c2, .slice A3 nums.length c3] 46) = W3:=⟨_, rfl⟩
 have hk3 : Kept [] w W3:=by rw [← hW3]; exact (Kept.refl [] w).alloc _
 have hc31 : W3.cell? ⟨w.heap.size, 2, none⟩ = some (.string s):=by
  rw [← hW3]
  have h1:=heap_alloc_new w (.cells #[.int .i64 9, .int .i64 n, .string s, .bool false, .slice A1 nb c1, .slice A2 texts.length c2, .slice A3 nums.length c3] 46)
  simp only [World.cell?, h1]
  rfl
 have hs3 : W3.heap.size = w.heap.size + 1:=by rw [← hW3, alloc_size]
 rw [hW3]
 obtain ⟨z8, hz8⟩ : ∃ z8, w.heap.size = z8:=⟨_, rfl⟩
 obtain ⟨z9, hz9⟩ : ∃ z9, W3.heap.size = z9:=⟨_, rfl⟩
 rw [hz8] at hc31 ⊢
 have HZ8:=lh hz8
 have HZ9:=lh hz9
 have HZ89 : Hid (z8 ≤ z9):=lh (by omega)
 have HK3:=lh hk3
 have HC31:=lh hc31
 clear hW3 hk3 hc31 hs3 hz8 hz9
 refine wp_region_facts' 7 (Kept []) (sb20F fl s A1 nb c1 z8 z9 lb) mixed (by kernel_rfl) (Kept.refl _ _).drew (fun _ _ _ h k => h.trans k (fun x hx => .inl hx)) sb20F_stable ?_ ?_
 ·refine ⟨?_, ?_, ?_, ?_, ?_, ?_, ?_, trivial⟩
  all_goals go_light
  all_goals intro a W hR hs hd
  all_goals have p2 : a.tmps[2]? = some (.pointer (some ⟨z8, 0, none⟩)):=hs.2.2 2 (by decide)
  all_goals have p1 : a.tmps[1]? = some (.bool fl):=hs.2.2 1 (by decide)
  all_goals have hRr : Kept [] W W:=Kept.refl _ _
  all_goals have hc1 : W.cell? ⟨z8, 2, none⟩ = _:=hR.cell HC31.out (by simp)
  ·refine ov W (.pointer (some ⟨z8, 2, none⟩)) ?_ (.mk hRr rfl rfl)
   simp [go_sem, p2]
  ·have q0 : _ = _:=hd.1 rfl
   refine ov W (.string s) ?_ (.mk hRr rfl rfl)
   simp [go_sem, q0, hc1]
  ·have q1 : _ = _:=hd.1 rfl
   refine ov W (.int .i64 s.size) ?_ (.mk hRr rfl rfl)
   simp [go_sem, q1]
  ·refine ov W (.bool fl) ?_ (.mk hRr rfl rfl)
   simp [go_sem, p1]
  ·have q2 : _ = _:=hd.1 rfl
   have q3 : _ = _:=hd.2.1 rfl
   refine ow_call (w':=W) (f:=74) (args:=#[.int .i64 s.size, .int .i64 2, .bool fl]) (by simp [go_sem, q2, q3]) (HC.out W) ?_
   rintro e w' ⟨v1, rfl, h1, hk1⟩
   exact ⟨_, rfl, .mk hk1 (own_kept_ge h1 (by have h8:=hR.size; have h7:=HZ9.out; omega)) rfl⟩
  ·refine ov W (.pointer (some ⟨z8, 2, none⟩)) ?_ (.mk hRr rfl rfl)
   simp [go_sem, p2]
  ·have q5 : _ = _:=hd.1 rfl
   refine ov W (.string s) ?_ (.mk hRr rfl rfl)
   simp [go_sem, q5, hc1]
 ·intro f W4 hR hf
  obtain ⟨f0, f1, f2, f3, f4, f5, f6, -⟩:=hf
  change f 60 = _ at f0
  change f 61 = _ at f1
  change f 62 = _ at f2
  change f 63 = _ at f3
  change W4.ownsRow z9 5 1 (f 64) lb.length (Lib.byteCells lb) at f4
  obtain ⟨x4, g4⟩ : ∃ x, f 64 = x:=⟨_, rfl⟩
  rw [g4] at f4
  change f 65 = _ at f5
  change f 66 = _ at f6
  simp only [headDsts, List.take_succ_cons, List.take_zero, List.filterMap_cons, List.filterMap_nil, setAll, f0, f1, f2, f3, g4, f5, f6, List.setIfInBounds_toArray, List.set_cons_succ, List.set_cons_zero, List.drop_succ_cons, List.drop_zero]
  clear f0 f1 f2 f3 g4 f5 f6 f
  have HOV:=lh f4
  have HBASE : Hid (z9 ≤ W4.heap.size):=lh (by have h8:=hR.size; have h7:=HZ9.out; omega)
  have HRW:=lh (HK3.out.trans0 hR)
  have HAW:=lh (HB.out.kept0 (HK3.out.trans0 hR))
  have hlen : ((Lib.byteCells b).length : Int) = b.length:=by simp [Lib.byteCells]
  clear f4 hR hlen
  go_wp2_with (refine wl_append_str rfl _ _ rfl z9 x4 lb.length _ rfl HOV.out s rfl (by omega) HBASE.out ?_; intro v2 w6 hown6 hk6; have HO6:=lh hown6; have HK6:=lh (HRW.out.trans hk6 (fun x hx => .inr (by have h9:=own_ge HOV.out x (by simpa using hx); have h8:=HZ8.out; have h7:=HZ89.out; omega))); clear hown6 hk6)
  go_ret
  have ho:=HO6.out
  rw [← Lib.byteCells_append] at ho
  have h5:=stepR_of ho HK6.out
  rw [← HLB.out] at h5
  exact h5
def sb24F (fl : Bool) (s : ByteArray) (_A1 : Option Addr) (_nb _c1 z8 z9 : Nat) (lb : List UInt8) (ix : Nat) (v : Value) (W : World) : Prop :=
 match ix with
 | 0 => v = .pointer (some ⟨z8, 2, none⟩)
 | 1 => v = .string s
 | 2 => v = .int .i64 s.size
 | 3 => v = .bool fl
 | 4 => W.ownsRow z9 5 1 v lb.length (Lib.byteCells lb)
 | 5 => v = .pointer (some ⟨z8, 2, none⟩)
 | 6 => v = .string s
 | _ => True
theorem sb24F_stable {fl s A1 nb c1 z8 z9 lb} : ∀ ix v w w', sb24F fl s A1 nb c1 z8 z9 lb ix v w → Kept [] w w' → sb24F fl s A1 nb c1 z8 z9 lb ix v w':=by
 intro ix v w w' h k
 unfold sb24F at h ⊢
 split at h <;> (first | (exact h) | (exact own_kept0 h k))
theorem sb_10 (fl : Bool) (x : St) (hx : RightB x) (h64 : ∀ y ∈ x.nums, Num64 y) (hkind : x.kind = 10) (hnull : x.null = false) {X : Nat → Prop} (A1 A2 A3 : Option Addr) (c1 c2 c3 : Nat) (w : World) (hw : StW X w x A1 A2 A3) : Calls Tryz.prog 44 #[.agg (stCells x A1 A2 A3 c1 c2 c3).toArray, .bool fl] w (StepR (stepB fl x) (stepB fl x).length w):=by
 obtain ⟨kind, n, s, null, b, texts, nums⟩:=x
 simp only at hkind
 subst hkind
 simp only at hnull
 subst hnull
 have hb3 : b.length ≤ 300:=hx.b300
 have hs2 : s.size ≤ 200:=hx.s200
 have hi : Num64 n:=hx.i64
 have HB:=lh hw.b
 have HT:=lh hw.t
 have HN:=lh hw.n
 obtain ⟨nb, hnb⟩ : ∃ nb, b.length = nb:=⟨_, rfl⟩
 rw [hnb] at hb3
 have HC : Hid (∀ W : World, Calls Tryz.prog 74 #[.int .i64 s.size, .int .i64 2, .bool fl] W (BytesR (lenB fl (s.size : Int) 2) (lenB fl (s.size : Int) 2).length W)):=lh (fun W => length_any fl W (s.size : Int) 2 (by omega) (by omega) (by omega))
 have hll:=lenB_le fl (s.size : Int) 2
 obtain ⟨lb, hlb⟩ : ∃ lb, lenB fl (s.size : Int) 2 = lb:=⟨_, rfl⟩
 have HLB:=lh hlb
 rw [hlb] at HC hll
 have HNB:=lh hnb
 clear hw hx h64 hi hlb
 show Calls Tryz.prog 44 #[.agg #[.int .i64 10, .int .i64 n, .string s, .bool false, .slice A1 b.length c1, .slice A2 texts.length c2, .slice A3 nums.length c3], .bool fl] w _
 rw [hnb]
 rw [hnb] at HB
 clear hnb
 go_enter Tryz.func44, Tryz.ntmps44
 go_wp2
 obtain ⟨W3, hW3⟩ : ∃ W3, w.alloc (.cells #[.int .i64 10, .int .i64 n, .string s, .bool false, .slice A1 nb c1, .slice A2 texts.length c2, .slice A3 nums.length c3] 46) = W3:=⟨_, rfl⟩
 have hk3 : Kept [] w W3:=by rw [← hW3]; exact (Kept.refl [] w).alloc _
 have hc31 : W3.cell? ⟨w.heap.size, 2, none⟩ = some (.string s):=by
  rw [← hW3]
  have h1:=heap_alloc_new w (.cells #[.int .i64 10, .int .i64 n, .string s, .bool false, .slice A1 nb c1, .slice A2 texts.length c2, .slice A3 nums.length c3] 46)
  simp only [World.cell?, h1]
  rfl
 have hs3 : W3.heap.size = w.heap.size + 1:=by rw [← hW3, alloc_size]
 rw [hW3]
 obtain ⟨z8, hz8⟩ : ∃ z8, w.heap.size = z8:=⟨_, rfl⟩
 obtain ⟨z9, hz9⟩ : ∃ z9, W3.heap.size = z9:=⟨_, rfl⟩
 rw [hz8] at hc31 ⊢
 have HZ8:=lh hz8
 have HZ9:=lh hz9
 have HZ89 : Hid (z8 ≤ z9):=lh (by omega)
 have HK3:=lh hk3
 have HC31:=lh hc31
 clear hW3 hk3 hc31 hs3 hz8 hz9
 refine wp_region_facts' 7 (Kept []) (sb24F fl s A1 nb c1 z8 z9 lb) mixed (by kernel_rfl) (Kept.refl _ _).drew (fun _ _ _ h k => h.trans k (fun x hx => .inl hx)) sb24F_stable ?_ ?_
 ·refine ⟨?_, ?_, ?_, ?_, ?_, ?_, ?_, trivial⟩
  all_goals go_light
  all_goals intro a W hR hs hd
  all_goals have p2 : a.tmps[2]? = some (.pointer (some ⟨z8, 0, none⟩)):=hs.2.2 2 (by decide)
  all_goals have p1 : a.tmps[1]? = some (.bool fl):=hs.2.2 1 (by decide)
  all_goals have hRr : Kept [] W W:=Kept.refl _ _
  all_goals have hc1 : W.cell? ⟨z8, 2, none⟩ = _:=hR.cell HC31.out (by simp)
  ·refine ov W (.pointer (some ⟨z8, 2, none⟩)) ?_ (.mk hRr rfl rfl)
   simp [go_sem, p2]
  ·have q0 : _ = _:=hd.1 rfl
   refine ov W (.string s) ?_ (.mk hRr rfl rfl)
   simp [go_sem, q0, hc1]
  ·have q1 : _ = _:=hd.1 rfl
   refine ov W (.int .i64 s.size) ?_ (.mk hRr rfl rfl)
   simp [go_sem, q1]
  ·refine ov W (.bool fl) ?_ (.mk hRr rfl rfl)
   simp [go_sem, p1]
  ·have q2 : _ = _:=hd.1 rfl
   have q3 : _ = _:=hd.2.1 rfl
   refine ow_call (w':=W) (f:=74) (args:=#[.int .i64 s.size, .int .i64 2, .bool fl]) (by simp [go_sem, q2, q3]) (HC.out W) ?_
   rintro e w' ⟨v1, rfl, h1, hk1⟩
   exact ⟨_, rfl, .mk hk1 (own_kept_ge h1 (by have h8:=hR.size; have h7:=HZ9.out; omega)) rfl⟩
  ·refine ov W (.pointer (some ⟨z8, 2, none⟩)) ?_ (.mk hRr rfl rfl)
   simp [go_sem, p2]
  ·have q5 : _ = _:=hd.1 rfl
   refine ov W (.string s) ?_ (.mk hRr rfl rfl)
   simp [go_sem, q5, hc1]
 ·intro f W4 hR hf
  obtain ⟨f0, f1, f2, f3, f4, f5, f6, -⟩:=hf
  change f 74 = _ at f0
  change f 75 = _ at f1
  change f 76 = _ at f2
  change f 77 = _ at f3
  change W4.ownsRow z9 5 1 (f 78) lb.length (Lib.byteCells lb) at f4
  obtain ⟨x4, g4⟩ : ∃ x, f 78 = x:=⟨_, rfl⟩
  rw [g4] at f4
  change f 79 = _ at f5
  change f 80 = _ at f6
  simp only [headDsts, List.take_succ_cons, List.take_zero, List.filterMap_cons, List.filterMap_nil, setAll, f0, f1, f2, f3, g4, f5, f6, List.setIfInBounds_toArray, List.set_cons_succ, List.set_cons_zero, List.drop_succ_cons, List.drop_zero]
  clear f0 f1 f2 f3 g4 f5 f6 f
  have HOV:=lh f4
  have HBASE : Hid (z9 ≤ W4.heap.size):=lh (by have h8:=hR.size; have h7:=HZ9.out; omega)
  have HRW:=lh (HK3.out.trans0 hR)
  have HAW:=lh (HB.out.kept0 (HK3.out.trans0 hR))
  have hlen : ((Lib.byteCells b).length : Int) = b.length:=by simp [Lib.byteCells]
  clear f4 hR hlen
  go_wp2_with (refine wl_append_str rfl _ _ rfl z9 x4 lb.length _ rfl HOV.out s rfl (by omega) HBASE.out ?_; intro v2 w6 hown6 hk6; have HO6:=lh hown6; have HK6:=lh (HRW.out.trans hk6 (fun x hx => .inr (by have h9:=own_ge HOV.out x (by simpa using hx); have h8:=HZ8.out; have h7:=HZ89.out; omega))); clear hown6 hk6)
  go_ret
  have ho:=HO6.out
  rw [← Lib.byteCells_append] at ho
  have h5:=stepR_of ho HK6.out
  rw [← HLB.out] at h5
  exact h5
def sb28F (fl : Bool) (_s : ByteArray) (A1 : Option Addr) (nb c1 z8 z9 : Nat) (lb : List UInt8) (ix : Nat) (v : Value) (W : World) : Prop :=
 match ix with
 | 0 => v = .pointer (some ⟨z8, 4, none⟩)
 | 1 => v = .slice A1 nb c1
 | 2 => v = .int .i64 nb
 | 3 => v = .bool fl
 | 4 => W.ownsRow z9 5 1 v lb.length (Lib.byteCells lb)
 | 5 => v = .pointer (some ⟨z8, 4, none⟩)
 | 6 => v = .slice A1 nb c1
 | _ => True
theorem sb28F_stable {fl s A1 nb c1 z8 z9 lb} : ∀ ix v w w', sb28F fl s A1 nb c1 z8 z9 lb ix v w → Kept [] w w' → sb28F fl s A1 nb c1 z8 z9 lb ix v w':=by
 intro ix v w w' h k
 unfold sb28F at h ⊢
 split at h <;> (first | (exact h) | (exact own_kept0 h k))
theorem sb_11 (fl : Bool) (x : St) (hx : RightB x) (h64 : ∀ y ∈ x.nums, Num64 y) (hkind : x.kind = 11) (hnull : x.null = false) {X : Nat → Prop} (A1 A2 A3 : Option Addr) (c1 c2 c3 : Nat) (w : World) (hw : StW X w x A1 A2 A3) : Calls Tryz.prog 44 #[.agg (stCells x A1 A2 A3 c1 c2 c3).toArray, .bool fl] w (StepR (stepB fl x) (stepB fl x).length w):=by
 obtain ⟨kind, n, s, null, b, texts, nums⟩:=x
 simp only at hkind
 subst hkind
 simp only at hnull
 subst hnull
 have hb3 : b.length ≤ 300:=hx.b300
 have hs2 : s.size ≤ 200:=hx.s200
 have hi : Num64 n:=hx.i64
 have HB:=lh hw.b
 have HT:=lh hw.t
 have HN:=lh hw.n
 obtain ⟨nb, hnb⟩ : ∃ nb, b.length = nb:=⟨_, rfl⟩
 rw [hnb] at hb3
 have HC : Hid (∀ W : World, Calls Tryz.prog 74 #[.int .i64 nb, .int .i64 4, .bool fl] W (BytesR (lenB fl (nb : Int) 4) (lenB fl (nb : Int) 4).length W)):=lh (fun W => length_any fl W (nb : Int) 4 (by omega) (by omega) (by omega))
 have hll:=lenB_le fl (nb : Int) 4
 obtain ⟨lb, hlb⟩ : ∃ lb, lenB fl (nb : Int) 4 = lb:=⟨_, rfl⟩
 have HLB:=lh hlb
 rw [hlb] at HC hll
 have HNB:=lh hnb
 clear hw hx h64 hi hlb
 show Calls Tryz.prog 44 #[.agg #[.int .i64 11, .int .i64 n, .string s, .bool false, .slice A1 b.length c1, .slice A2 texts.length c2, .slice A3 nums.length c3], .bool fl] w _
 rw [hnb]
 rw [hnb] at HB
 clear hnb
 go_enter Tryz.func44, Tryz.ntmps44
 go_wp2
 obtain ⟨W3, hW3⟩ : ∃ W3, w.alloc (.cells #[.int .i64 11, .int .i64 n, .string s, .bool false, .slice A1 nb c1, .slice A2 texts.length c2, .slice A3 nums.length c3] 46) = W3:=⟨_, rfl⟩
 have hk3 : Kept [] w W3:=by rw [← hW3]; exact (Kept.refl [] w).alloc _
 have hc31 : W3.cell? ⟨w.heap.size, 4, none⟩ = some (.slice A1 nb c1):=by
  rw [← hW3]
  have h1:=heap_alloc_new w (.cells #[.int .i64 11, .int .i64 n, .string s, .bool false, .slice A1 nb c1, .slice A2 texts.length c2, .slice A3 nums.length c3] 46)
  simp only [World.cell?, h1]
  rfl
 have hs3 : W3.heap.size = w.heap.size + 1:=by rw [← hW3, alloc_size]
 rw [hW3]
 obtain ⟨z8, hz8⟩ : ∃ z8, w.heap.size = z8:=⟨_, rfl⟩
 obtain ⟨z9, hz9⟩ : ∃ z9, W3.heap.size = z9:=⟨_, rfl⟩
 rw [hz8] at hc31 ⊢
 have HZ8:=lh hz8
 have HZ9:=lh hz9
 have HZ89 : Hid (z8 ≤ z9):=lh (by omega)
 have HK3:=lh hk3
 have HC31:=lh hc31
 clear hW3 hk3 hc31 hs3 hz8 hz9
 refine wp_region_facts' 7 (Kept []) (sb28F fl s A1 nb c1 z8 z9 lb) mixed (by kernel_rfl) (Kept.refl _ _).drew (fun _ _ _ h k => h.trans k (fun x hx => .inl hx)) sb28F_stable ?_ ?_
 ·refine ⟨?_, ?_, ?_, ?_, ?_, ?_, ?_, trivial⟩
  all_goals go_light
  all_goals intro a W hR hs hd
  all_goals have p2 : a.tmps[2]? = some (.pointer (some ⟨z8, 0, none⟩)):=hs.2.2 2 (by decide)
  all_goals have p1 : a.tmps[1]? = some (.bool fl):=hs.2.2 1 (by decide)
  all_goals have hRr : Kept [] W W:=Kept.refl _ _
  all_goals have hc1 : W.cell? ⟨z8, 4, none⟩ = _:=hR.cell HC31.out (by simp)
  ·refine ov W (.pointer (some ⟨z8, 4, none⟩)) ?_ (.mk hRr rfl rfl)
   simp [go_sem, p2]
  ·have q0 : _ = _:=hd.1 rfl
   refine ov W (.slice A1 nb c1) ?_ (.mk hRr rfl rfl)
   simp [go_sem, q0, hc1]
  ·have q1 : _ = _:=hd.1 rfl
   refine ov W (.int .i64 nb) ?_ (.mk hRr rfl rfl)
   simp [go_sem, q1]
  ·refine ov W (.bool fl) ?_ (.mk hRr rfl rfl)
   simp [go_sem, p1]
  ·have q2 : _ = _:=hd.1 rfl
   have q3 : _ = _:=hd.2.1 rfl
   refine ow_call (w':=W) (f:=74) (args:=#[.int .i64 nb, .int .i64 4, .bool fl]) (by simp [go_sem, q2, q3]) (HC.out W) ?_
   rintro e w' ⟨v1, rfl, h1, hk1⟩
   exact ⟨_, rfl, .mk hk1 (own_kept_ge h1 (by have h8:=hR.size; have h7:=HZ9.out; omega)) rfl⟩
  ·refine ov W (.pointer (some ⟨z8, 4, none⟩)) ?_ (.mk hRr rfl rfl)
   simp [go_sem, p2]
  ·have q5 : _ = _:=hd.1 rfl
   refine ov W (.slice A1 nb c1) ?_ (.mk hRr rfl rfl)
   simp [go_sem, q5, hc1]
 ·intro f W4 hR hf
  obtain ⟨f0, f1, f2, f3, f4, f5, f6, -⟩:=hf
  change f 88 = _ at f0
  change f 89 = _ at f1
  change f 90 = _ at f2
  change f 91 = _ at f3
  change W4.ownsRow z9 5 1 (f 92) lb.length (Lib.byteCells lb) at f4
  obtain ⟨x4, g4⟩ : ∃ x, f 92 = x:=⟨_, rfl⟩
  rw [g4] at f4
  change f 93 = _ at f5
  change f 94 = _ at f6
  simp only [headDsts, List.take_succ_cons, List.take_zero, List.filterMap_cons, List.filterMap_nil, setAll, f0, f1, f2, f3, g4, f5, f6, List.setIfInBounds_toArray, List.set_cons_succ, List.set_cons_zero, List.drop_succ_cons, List.drop_zero]
  clear f0 f1 f2 f3 g4 f5 f6 f
  have HOV:=lh f4
  have HBASE : Hid (z9 ≤ W4.heap.size):=lh (by have h8:=hR.size; have h7:=HZ9.out; omega)
  have HRW:=lh (HK3.out.trans0 hR)
  have HAW:=lh (HB.out.kept0 (HK3.out.trans0 hR))
  have hlen : ((Lib.byteCells b).length : Int) = b.length:=by simp [Lib.byteCells]
  clear f4 hR hlen
  go_wp2_with (at_builtin; refine wl_append rfl _ _ 34 rfl z9 5 Tryz.underlying34 info5b rfl (by decide) x4 lb.length _ rfl HOV.out A1 nb c1 (Lib.byteCells b) rfl (HAW.out) (bytes_one b) (by omega) (by omega) (HBASE.out) ?_; intro v2 w6 hown6 hk6 _; have HO6:=lh hown6; have HK6:=lh ((HRW.out).trans hk6 (fun x hx => .inr (by have h9:=own_ge HOV.out x (by simpa using hx); have h8:=HZ8.out; have h7:=HZ89.out; omega))); clear hown6 hk6)
  go_ret
  have ho:=HO6.out
  rw [← Lib.byteCells_append] at ho
  have h5:=stepR_of ho HK6.out
  rw [← HLB.out, ← HNB.out] at h5
  exact h5
end Go.Proofs.YtmpjikihnmagoaaGreatDoor
