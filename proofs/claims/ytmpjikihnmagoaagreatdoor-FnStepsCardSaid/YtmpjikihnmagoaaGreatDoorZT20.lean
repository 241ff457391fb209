/-
  A datum is put (77), kind by kind. Conditions: a right datum; room.
-/
import Derived.Test.YtmpjikihnmagoaaGreatDoorZT15
set_option maxRecDepth 100000
set_option maxHeartbeats 3200000
namespace Go.Proofs.YtmpjikihnmagoaaGreatDoor
open Go.RowKit
theorem put_0 {T : TypeId} {v : Value} {fl : Bool} {At : List UInt8 → World → Prop} {S : List Nat} {cap : Nat} (E : Enc T v fl At S cap) (x : St) (hx : RightB x) (hkind : x.kind = 0) (A1 A2 A3 : Option Addr) (c1 c2 c3 : Nat) (w : World) (hw : StV (· ∉ S) w x A1 A2 A3) (k : List UInt8) (hS : ∀ s ∈ S, s < w.heap.size) (h : At k w) (hroom : k.length + (stepB fl x).length ≤ cap) : Calls Tryz.prog 77 #[.iface T v, .agg (stCells x A1 A2 A3 c1 c2 c3).toArray] w (PutR At S (k ++ stepB fl x) w):=by
 obtain ⟨kind, n, s, null, b, texts, nums⟩:=x
 simp only at hkind
 subst hkind
 have hnull : null = false:=by
  cases null with
  | false => rfl
  | true => exact absurd (hx.null rfl).1 (by simp)
 subst hnull
 have hb3 : b.length ≤ 300:=hx.b300
 have HX:=lh hx
 have HB:=lh hw.b
 have HT:=lh hw.t
 have HN:=lh hw.n
 have HXB:=lh hw.xb
 have HXT:=lh hw.xt
 have HXN:=lh hw.xn
 have HROOM : Hid (k.length + (stepB fl ⟨0, n, s, false, b, texts, nums⟩).length ≤ cap):=lh hroom
 have HH:=lh h
 have HS:=lh hS
 have hlen : ((Lib.byteCells b).length : Int) = b.length:=by simp [Lib.byteCells]
 have hcv : IntKind.i8.wrap n = n:=IntWalk.i8_in _ (by have:=hx.f8 rfl; simp only [fitsB] at this; omega)
 clear hw hroom h hx hS
 show Calls Tryz.prog 77 #[.iface T v, .agg #[.int .i64 0, .int .i64 n, .string s, .bool false, .slice A1 b.length c1, .slice A2 texts.length c2, .slice A3 nums.length c3]] w _
 have hcl : ∀ w1, Kept [w.heap.size + 1] ((w.alloc (.cells #[.int .i64 0, .int .i64 n, .string s, .bool false, .slice A1 b.length c1, .slice A2 texts.length c2, .slice A3 nums.length c3] 102)).alloc (.cells #[] 5)) w1 → ∀ j u, [Value.int .i64 0, .int .i64 n, .string s, .bool false, .slice A1 b.length c1, .slice A2 texts.length c2, .slice A3 nums.length c3][j]? = some u → w1.cell? ⟨w.heap.size, j, none⟩ = some u:=fun w1 hk1 j u hu => box_cells (T:=102) hk1 (by simp) j u hu
 have HCL:=lh hcl
 have hkw : ∀ w1, Kept [w.heap.size + 1] ((w.alloc (.cells #[.int .i64 0, .int .i64 n, .string s, .bool false, .slice A1 b.length c1, .slice A2 texts.length c2, .slice A3 nums.length c3] 102)).alloc (.cells #[] 5)) w1 → Kept [] w w1:=fun w1 hk1 => (((Kept.refl [] w).alloc _).alloc _).trans hk1 (fun x hx => .inr (by have:=List.mem_singleton.1 hx; omega))
 have HKW:=lh hkw
 have hown0 : ((w.alloc (.cells #[.int .i64 0, .int .i64 n, .string s, .bool false, .slice A1 b.length c1, .slice A2 texts.length c2, .slice A3 nums.length c3] 102)).alloc (.cells #[] 5)).ownsRow (w.heap.size + 1) 5 1 (.slice (some ⟨w.heap.size + 1, 0, none⟩) 0 0) 0 []:=own_lit1 _ _
 have HOWN0:=lh hown0
 clear hcl hkw hown0
 go_enter Tryz.func77, Tryz.ntmps77
 go_wp2_with (first
  | (at_builtin; refine wl_append rfl _ _ 34 rfl (w.heap.size + 1) 5 Tryz.underlying34 info5b rfl (by decide) (.slice (some ⟨w.heap.size + 1, 0, none⟩) 0 0) 0 [] rfl HOWN0.out A1 b.length c1 (Lib.byteCells b) rfl (HB.out.kept0 (((Kept.refl _ _).alloc _).alloc _)) (bytes_one b) (by omega) (by omega) (by rw [alloc_size, alloc_size]; omega) ?_; intro v1 w1 hown hk1 hat; have HC:=lh (HCL.out w1 hk1); have HK:=lh (HKW.out w1 hk1); have HO:=lh hown; have HAT:=lh hat; have hc0:=HC.out 0 _ rfl; have hc1:=HC.out 1 _ rfl; have hc2:=HC.out 2 _ rfl; have hc3:=HC.out 3 _ rfl; have hc4:=HC.out 4 _ rfl; have hc5:=HC.out 5 _ rfl; have hc6:=HC.out 6 _ rfl; clear hown hk1 hat)
  | (refine wl_invoke rfl _ _ _ _ rfl T v rfl "putInt8" rfl [.int .i8 n] (by simp [go_sem]) _ (E.int8 k w1 n (E.keep _ _ _ HH.out HK.out) (by first | exact HROOM.out | (have:=HROOM.out; simpa [stepB, big_len] using this))) ?_; rintro e w2 ⟨rfl, ha, hk2⟩; refine ⟨_, rfl, ?_⟩; have HA:=lh ha; have HK2:=lh (HK.out.mono (T:=S) (by simp) |>.trans hk2 (fun x hx => .inl hx)); clear ha hk2))
 go_ret
 exact ⟨rfl, HA.out, HK2.out⟩
theorem put_1 {T : TypeId} {v : Value} {fl : Bool} {At : List UInt8 → World → Prop} {S : List Nat} {cap : Nat} (E : Enc T v fl At S cap) (x : St) (hx : RightB x) (hkind : x.kind = 1) (A1 A2 A3 : Option Addr) (c1 c2 c3 : Nat) (w : World) (hw : StV (· ∉ S) w x A1 A2 A3) (k : List UInt8) (hS : ∀ s ∈ S, s < w.heap.size) (h : At k w) (hroom : k.length + (stepB fl x).length ≤ cap) : Calls Tryz.prog 77 #[.iface T v, .agg (stCells x A1 A2 A3 c1 c2 c3).toArray] w (PutR At S (k ++ stepB fl x) w):=by
 obtain ⟨kind, n, s, null, b, texts, nums⟩:=x
 simp only at hkind
 subst hkind
 have hnull : null = false:=by
  cases null with
  | false => rfl
  | true => exact absurd (hx.null rfl).1 (by simp)
 subst hnull
 have hb3 : b.length ≤ 300:=hx.b300
 have HX:=lh hx
 have HB:=lh hw.b
 have HT:=lh hw.t
 have HN:=lh hw.n
 have HXB:=lh hw.xb
 have HXT:=lh hw.xt
 have HXN:=lh hw.xn
 have HROOM : Hid (k.length + (stepB fl ⟨1, n, s, false, b, texts, nums⟩).length ≤ cap):=lh hroom
 have HH:=lh h
 have HS:=lh hS
 have hlen : ((Lib.byteCells b).length : Int) = b.length:=by simp [Lib.byteCells]
 have hcv : IntKind.i16.wrap n = n:=IntWalk.i16_in _ (by have:=hx.f16 rfl; simp only [fitsB] at this; omega)
 clear hw hroom h hx hS
 show Calls Tryz.prog 77 #[.iface T v, .agg #[.int .i64 1, .int .i64 n, .string s, .bool false, .slice A1 b.length c1, .slice A2 texts.length c2, .slice A3 nums.length c3]] w _
 have hcl : ∀ w1, Kept [w.heap.size + 1] ((w.alloc (.cells #[.int .i64 1, .int .i64 n, .string s, .bool false, .slice A1 b.length c1, .slice A2 texts.length c2, .slice A3 nums.length c3] 102)).alloc (.cells #[] 5)) w1 → ∀ j u, [Value.int .i64 1, .int .i64 n, .string s, .bool false, .slice A1 b.length c1, .slice A2 texts.length c2, .slice A3 nums.length c3][j]? = some u → w1.cell? ⟨w.heap.size, j, none⟩ = some u:=fun w1 hk1 j u hu => box_cells (T:=102) hk1 (by simp) j u hu
 have HCL:=lh hcl
 have hkw : ∀ w1, Kept [w.heap.size + 1] ((w.alloc (.cells #[.int .i64 1, .int .i64 n, .string s, .bool false, .slice A1 b.length c1, .slice A2 texts.length c2, .slice A3 nums.length c3] 102)).alloc (.cells #[] 5)) w1 → Kept [] w w1:=fun w1 hk1 => (((Kept.refl [] w).alloc _).alloc _).trans hk1 (fun x hx => .inr (by have:=List.mem_singleton.1 hx; omega))
 have HKW:=lh hkw
 have hown0 : ((w.alloc (.cells #[.int .i64 1, .int .i64 n, .string s, .bool false, .slice A1 b.length c1, .slice A2 texts.length c2, .slice A3 nums.length c3] 102)).alloc (.cells #[] 5)).ownsRow (w.heap.size + 1) 5 1 (.slice (some ⟨w.heap.size + 1, 0, none⟩) 0 0) 0 []:=own_lit1 _ _
 have HOWN0:=lh hown0
 clear hcl hkw hown0
 go_enter Tryz.func77, Tryz.ntmps77
 go_wp2_with (first
  | (at_builtin; refine wl_append rfl _ _ 34 rfl (w.heap.size + 1) 5 Tryz.underlying34 info5b rfl (by decide) (.slice (some ⟨w.heap.size + 1, 0, none⟩) 0 0) 0 [] rfl HOWN0.out A1 b.length c1 (Lib.byteCells b) rfl (HB.out.kept0 (((Kept.refl _ _).alloc _).alloc _)) (bytes_one b) (by omega) (by omega) (by rw [alloc_size, alloc_size]; omega) ?_; intro v1 w1 hown hk1 hat; have HC:=lh (HCL.out w1 hk1); have HK:=lh (HKW.out w1 hk1); have HO:=lh hown; have HAT:=lh hat; have hc0:=HC.out 0 _ rfl; have hc1:=HC.out 1 _ rfl; have hc2:=HC.out 2 _ rfl; have hc3:=HC.out 3 _ rfl; have hc4:=HC.out 4 _ rfl; have hc5:=HC.out 5 _ rfl; have hc6:=HC.out 6 _ rfl; clear hown hk1 hat)
  | (refine wl_invoke rfl _ _ _ _ rfl T v rfl "putInt16" rfl [.int .i16 n] (by simp [go_sem]) _ (E.int16 k w1 n (E.keep _ _ _ HH.out HK.out) (by first | exact HROOM.out | (have:=HROOM.out; simpa [stepB, big_len] using this))) ?_; rintro e w2 ⟨rfl, ha, hk2⟩; refine ⟨_, rfl, ?_⟩; have HA:=lh ha; have HK2:=lh (HK.out.mono (T:=S) (by simp) |>.trans hk2 (fun x hx => .inl hx)); clear ha hk2))
 go_ret
 exact ⟨rfl, HA.out, HK2.out⟩
theorem put_2 {T : TypeId} {v : Value} {fl : Bool} {At : List UInt8 → World → Prop} {S : List Nat} {cap : Nat} (E : Enc T v fl At S cap) (x : St) (hx : RightB x) (hkind : x.kind = 2) (A1 A2 A3 : Option Addr) (c1 c2 c3 : Nat) (w : World) (hw : StV (· ∉ S) w x A1 A2 A3) (k : List UInt8) (hS : ∀ s ∈ S, s < w.heap.size) (h : At k w) (hroom : k.length + (stepB fl x).length ≤ cap) : Calls Tryz.prog 77 #[.iface T v, .agg (stCells x A1 A2 A3 c1 c2 c3).toArray] w (PutR At S (k ++ stepB fl x) w):=by
 obtain ⟨kind, n, s, null, b, texts, nums⟩:=x
 simp only at hkind
 subst hkind
 have hnull : null = false:=by
  cases null with
  | false => rfl
  | true => exact absurd (hx.null rfl).1 (by simp)
 subst hnull
 have hb3 : b.length ≤ 300:=hx.b300
 have HX:=lh hx
 have HB:=lh hw.b
 have HT:=lh hw.t
 have HN:=lh hw.n
 have HXB:=lh hw.xb
 have HXT:=lh hw.xt
 have HXN:=lh hw.xn
 have HROOM : Hid (k.length + (stepB fl ⟨2, n, s, false, b, texts, nums⟩).length ≤ cap):=lh hroom
 have HH:=lh h
 have HS:=lh hS
 have hlen : ((Lib.byteCells b).length : Int) = b.length:=by simp [Lib.byteCells]
 have hcv : IntKind.i32.wrap n = n:=IntWalk.i32_in _ (by have:=hx.f32 rfl; simp only [fitsB] at this; omega)
 clear hw hroom h hx hS
 show Calls Tryz.prog 77 #[.iface T v, .agg #[.int .i64 2, .int .i64 n, .string s, .bool false, .slice A1 b.length c1, .slice A2 texts.length c2, .slice A3 nums.length c3]] w _
 have hcl : ∀ w1, Kept [w.heap.size + 1] ((w.alloc (.cells #[.int .i64 2, .int .i64 n, .string s, .bool false, .slice A1 b.length c1, .slice A2 texts.length c2, .slice A3 nums.length c3] 102)).alloc (.cells #[] 5)) w1 → ∀ j u, [Value.int .i64 2, .int .i64 n, .string s, .bool false, .slice A1 b.length c1, .slice A2 texts.length c2, .slice A3 nums.length c3][j]? = some u → w1.cell? ⟨w.heap.size, j, none⟩ = some u:=fun w1 hk1 j u hu => box_cells (T:=102) hk1 (by simp) j u hu
 have HCL:=lh hcl
 have hkw : ∀ w1, Kept [w.heap.size + 1] ((w.alloc (.cells #[.int .i64 2, .int .i64 n, .string s, .bool false, .slice A1 b.length c1, .slice A2 texts.length c2, .slice A3 nums.length c3] 102)).alloc (.cells #[] 5)) w1 → Kept [] w w1:=fun w1 hk1 => (((Kept.refl [] w).alloc _).alloc _).trans hk1 (fun x hx => .inr (by have:=List.mem_singleton.1 hx; omega))
 have HKW:=lh hkw
 have hown0 : ((w.alloc (.cells #[.int .i64 2, .int .i64 n, .string s, .bool false, .slice A1 b.length c1, .slice A2 texts.length c2, .slice A3 nums.length c3] 102)).alloc (.cells #[] 5)).ownsRow (w.heap.size + 1) 5 1 (.slice (some ⟨w.heap.size + 1, 0, none⟩) 0 0) 0 []:=own_lit1 _ _
 have HOWN0:=lh hown0
 clear hcl hkw hown0
 go_enter Tryz.func77, Tryz.ntmps77
 go_wp2_with (first
  | (at_builtin; refine wl_append rfl _ _ 34 rfl (w.heap.size + 1) 5 Tryz.underlying34 info5b rfl (by decide) (.slice (some ⟨w.heap.size + 1, 0, none⟩) 0 0) 0 [] rfl HOWN0.out A1 b.length c1 (Lib.byteCells b) rfl (HB.out.kept0 (((Kept.refl _ _).alloc _).alloc _)) (bytes_one b) (by omega) (by omega) (by rw [alloc_size, alloc_size]; omega) ?_; intro v1 w1 hown hk1 hat; have HC:=lh (HCL.out w1 hk1); have HK:=lh (HKW.out w1 hk1); have HO:=lh hown; have HAT:=lh hat; have hc0:=HC.out 0 _ rfl; have hc1:=HC.out 1 _ rfl; have hc2:=HC.out 2 _ rfl; have hc3:=HC.out 3 _ rfl; have hc4:=HC.out 4 _ rfl; have hc5:=HC.out 5 _ rfl; have hc6:=HC.out 6 _ rfl; clear hown hk1 hat)
  | (refine wl_invoke rfl _ _ _ _ rfl T v rfl "putInt32" rfl [.int .i32 n] (by simp [go_sem]) _ (E.int32 k w1 n (E.keep _ _ _ HH.out HK.out) (by first | exact HROOM.out | (have:=HROOM.out; simpa [stepB, big_len] using this))) ?_; rintro e w2 ⟨rfl, ha, hk2⟩; refine ⟨_, rfl, ?_⟩; have HA:=lh ha; have HK2:=lh (HK.out.mono (T:=S) (by simp) |>.trans hk2 (fun x hx => .inl hx)); clear ha hk2))
 go_ret
 exact ⟨rfl, HA.out, HK2.out⟩
theorem put_3 {T : TypeId} {v : Value} {fl : Bool} {At : List UInt8 → World → Prop} {S : List Nat} {cap : Nat} (E : Enc T v fl At S cap) (x : St) (hx : RightB x) (hkind : x.kind = 3) (A1 A2 A3 : Option Addr) (c1 c2 c3 : Nat) (w : World) (hw : StV (· ∉ S) w x A1 A2 A3) (k : List UInt8) (hS : ∀ s ∈ S, s < w.heap.size) (h : At k w) (hroom : k.length + (stepB fl x).length ≤ cap) : Calls Tryz.prog 77 #[.iface T v, .agg (stCells x A1 A2 A3 c1 c2 c3).toArray] w (PutR At S (k ++ stepB fl x) w):=by
 obtain ⟨kind, n, s, null, b, texts, nums⟩:=x
 simp only at hkind
 subst hkind
 have hnull : null = false:=by
  cases null with
  | false => rfl
  | true => exact absurd (hx.null rfl).1 (by simp)
 subst hnull
 have hb3 : b.length ≤ 300:=hx.b300
 have HX:=lh hx
 have HB:=lh hw.b
 have HT:=lh hw.t
 have HN:=lh hw.n
 have HXB:=lh hw.xb
 have HXT:=lh hw.xt
 have HXN:=lh hw.xn
 have HROOM : Hid (k.length + (stepB fl ⟨3, n, s, false, b, texts, nums⟩).length ≤ cap):=lh hroom
 have HH:=lh h
 have HS:=lh hS
 have hlen : ((Lib.byteCells b).length : Int) = b.length:=by simp [Lib.byteCells]
 clear hw hroom h hx hS
 show Calls Tryz.prog 77 #[.iface T v, .agg #[.int .i64 3, .int .i64 n, .string s, .bool false, .slice A1 b.length c1, .slice A2 texts.length c2, .slice A3 nums.length c3]] w _
 have hcl : ∀ w1, Kept [w.heap.size + 1] ((w.alloc (.cells #[.int .i64 3, .int .i64 n, .string s, .bool false, .slice A1 b.length c1, .slice A2 texts.length c2, .slice A3 nums.length c3] 102)).alloc (.cells #[] 5)) w1 → ∀ j u, [Value.int .i64 3, .int .i64 n, .string s, .bool false, .slice A1 b.length c1, .slice A2 texts.length c2, .slice A3 nums.length c3][j]? = some u → w1.cell? ⟨w.heap.size, j, none⟩ = some u:=fun w1 hk1 j u hu => box_cells (T:=102) hk1 (by simp) j u hu
 have HCL:=lh hcl
 have hkw : ∀ w1, Kept [w.heap.size + 1] ((w.alloc (.cells #[.int .i64 3, .int .i64 n, .string s, .bool false, .slice A1 b.length c1, .slice A2 texts.length c2, .slice A3 nums.length c3] 102)).alloc (.cells #[] 5)) w1 → Kept [] w w1:=fun w1 hk1 => (((Kept.refl [] w).alloc _).alloc _).trans hk1 (fun x hx => .inr (by have:=List.mem_singleton.1 hx; omega))
 have HKW:=lh hkw
 have hown0 : ((w.alloc (.cells #[.int .i64 3, .int .i64 n, .string s, .bool false, .slice A1 b.length c1, .slice A2 texts.length c2, .slice A3 nums.length c3] 102)).alloc (.cells #[] 5)).ownsRow (w.heap.size + 1) 5 1 (.slice (some ⟨w.heap.size + 1, 0, none⟩) 0 0) 0 []:=own_lit1 _ _
 have HOWN0:=lh hown0
 clear hcl hkw hown0
 go_enter Tryz.func77, Tryz.ntmps77
 go_wp2_with (first
  | (at_builtin; refine wl_append rfl _ _ 34 rfl (w.heap.size + 1) 5 Tryz.underlying34 info5b rfl (by decide) (.slice (some ⟨w.heap.size + 1, 0, none⟩) 0 0) 0 [] rfl HOWN0.out A1 b.length c1 (Lib.byteCells b) rfl (HB.out.kept0 (((Kept.refl _ _).alloc _).alloc _)) (bytes_one b) (by omega) (by omega) (by rw [alloc_size, alloc_size]; omega) ?_; intro v1 w1 hown hk1 hat; have HC:=lh (HCL.out w1 hk1); have HK:=lh (HKW.out w1 hk1); have HO:=lh hown; have HAT:=lh hat; have hc0:=HC.out 0 _ rfl; have hc1:=HC.out 1 _ rfl; have hc2:=HC.out 2 _ rfl; have hc3:=HC.out 3 _ rfl; have hc4:=HC.out 4 _ rfl; have hc5:=HC.out 5 _ rfl; have hc6:=HC.out 6 _ rfl; clear hown hk1 hat)
  | (refine wl_invoke rfl _ _ _ _ rfl T v rfl "putInt64" rfl [.int .i64 n] (by simp [go_sem]) _ (E.int64 k w1 n (E.keep _ _ _ HH.out HK.out) (by first | exact HROOM.out | (have:=HROOM.out; simpa [stepB, big_len] using this))) ?_; rintro e w2 ⟨rfl, ha, hk2⟩; refine ⟨_, rfl, ?_⟩; have HA:=lh ha; have HK2:=lh (HK.out.mono (T:=S) (by simp) |>.trans hk2 (fun x hx => .inl hx)); clear ha hk2))
 go_ret
 exact ⟨rfl, HA.out, HK2.out⟩
theorem put_4 {T : TypeId} {v : Value} {fl : Bool} {At : List UInt8 → World → Prop} {S : List Nat} {cap : Nat} (E : Enc T v fl At S cap) (x : St) (hx : RightB x) (hkind : x.kind = 4) (A1 A2 A3 : Option Addr) (c1 c2 c3 : Nat) (w : World) (hw : StV (· ∉ S) w x A1 A2 A3) (k : List UInt8) (hS : ∀ s ∈ S, s < w.heap.size) (h : At k w) (hroom : k.length + (stepB fl x).length ≤ cap) : Calls Tryz.prog 77 #[.iface T v, .agg (stCells x A1 A2 A3 c1 c2 c3).toArray] w (PutR At S (k ++ stepB fl x) w):=by
 obtain ⟨kind, n, s, null, b, texts, nums⟩:=x
 simp only at hkind
 subst hkind
 have hnull : null = false:=by
  cases null with
  | false => rfl
  | true => exact absurd (hx.null rfl).1 (by simp)
 subst hnull
 have hb3 : b.length ≤ 300:=hx.b300
 have HX:=lh hx
 have HB:=lh hw.b
 have HT:=lh hw.t
 have HN:=lh hw.n
 have HXB:=lh hw.xb
 have HXT:=lh hw.xt
 have HXN:=lh hw.xn
 have HROOM : Hid (k.length + (stepB fl ⟨4, n, s, false, b, texts, nums⟩).length ≤ cap):=lh hroom
 have HH:=lh h
 have HS:=lh hS
 have hlen : ((Lib.byteCells b).length : Int) = b.length:=by simp [Lib.byteCells]
 clear hw hroom h hx hS
 show Calls Tryz.prog 77 #[.iface T v, .agg #[.int .i64 4, .int .i64 n, .string s, .bool false, .slice A1 b.length c1, .slice A2 texts.length c2, .slice A3 nums.length c3]] w _
 have hcl : ∀ w1, Kept [w.heap.size + 1] ((w.alloc (.cells #[.int .i64 4, .int .i64 n, .string s, .bool false, .slice A1 b.length c1, .slice A2 texts.length c2, .slice A3 nums.length c3] 102)).alloc (.cells #[] 5)) w1 → ∀ j u, [Value.int .i64 4, .int .i64 n, .string s, .bool false, .slice A1 b.length c1, .slice A2 texts.length c2, .slice A3 nums.length c3][j]? = some u → w1.cell? ⟨w.heap.size, j, none⟩ = some u:=fun w1 hk1 j u hu => box_cells (T:=102) hk1 (by simp) j u hu
 have HCL:=lh hcl
 have hkw : ∀ w1, Kept [w.heap.size + 1] ((w.alloc (.cells #[.int .i64 4, .int .i64 n, .string s, .bool false, .slice A1 b.length c1, .slice A2 texts.length c2, .slice A3 nums.length c3] 102)).alloc (.cells #[] 5)) w1 → Kept [] w w1:=fun w1 hk1 => (((Kept.refl [] w).alloc _).alloc _).trans hk1 (fun x hx => .inr (by have:=List.mem_singleton.1 hx; omega))
 have HKW:=lh hkw
 have hown0 : ((w.alloc (.cells #[.int .i64 4, .int .i64 n, .string s, .bool false, .slice A1 b.length c1, .slice A2 texts.length c2, .slice A3 nums.length c3] 102)).alloc (.cells #[] 5)).ownsRow (w.heap.size + 1) 5 1 (.slice (some ⟨w.heap.size + 1, 0, none⟩) 0 0) 0 []:=own_lit1 _ _
 have HOWN0:=lh hown0
 clear hcl hkw hown0
 go_enter Tryz.func77, Tryz.ntmps77
 go_wp2_with (first
  | (at_builtin; refine wl_append rfl _ _ 34 rfl (w.heap.size + 1) 5 Tryz.underlying34 info5b rfl (by decide) (.slice (some ⟨w.heap.size + 1, 0, none⟩) 0 0) 0 [] rfl HOWN0.out A1 b.length c1 (Lib.byteCells b) rfl (HB.out.kept0 (((Kept.refl _ _).alloc _).alloc _)) (bytes_one b) (by omega) (by omega) (by rw [alloc_size, alloc_size]; omega) ?_; intro v1 w1 hown hk1 hat; have HC:=lh (HCL.out w1 hk1); have HK:=lh (HKW.out w1 hk1); have HO:=lh hown; have HAT:=lh hat; have hc0:=HC.out 0 _ rfl; have hc1:=HC.out 1 _ rfl; have hc2:=HC.out 2 _ rfl; have hc3:=HC.out 3 _ rfl; have hc4:=HC.out 4 _ rfl; have hc5:=HC.out 5 _ rfl; have hc6:=HC.out 6 _ rfl; clear hown hk1 hat)
  | (refine wl_invoke rfl _ _ _ _ rfl T v rfl "putVarint" rfl [.int .i64 n] (by simp [go_sem]) _ (E.varint k w1 n HX.out.i64.1 HX.out.i64.2 (E.keep _ _ _ HH.out HK.out) (by first | exact HROOM.out | (have:=HROOM.out; simpa [stepB, big_len] using this))) ?_; rintro e w2 ⟨rfl, ha, hk2⟩; refine ⟨_, rfl, ?_⟩; have HA:=lh ha; have HK2:=lh (HK.out.mono (T:=S) (by simp) |>.trans hk2 (fun x hx => .inl hx)); clear ha hk2))
 go_ret
 exact ⟨rfl, HA.out, HK2.out⟩
theorem put_5 {T : TypeId} {v : Value} {fl : Bool} {At : List UInt8 → World → Prop} {S : List Nat} {cap : Nat} (E : Enc T v fl At S cap) (x : St) (hx : RightB x) (hkind : x.kind = 5) (A1 A2 A3 : Option Addr) (c1 c2 c3 : Nat) (w : World) (hw : StV (· ∉ S) w x A1 A2 A3) (k : List UInt8) (hS : ∀ s ∈ S, s < w.heap.size) (h : At k w) (hroom : k.length + (stepB fl x).length ≤ cap) : Calls Tryz.prog 77 #[.iface T v, .agg (stCells x A1 A2 A3 c1 c2 c3).toArray] w (PutR At S (k ++ stepB fl x) w):=by
 obtain ⟨kind, n, s, null, b, texts, nums⟩:=x
 simp only at hkind
 subst hkind
 have hnull : null = false:=by
  cases null with
  | false => rfl
  | true => exact absurd (hx.null rfl).1 (by simp)
 subst hnull
 have hb3 : b.length ≤ 300:=hx.b300
 have HX:=lh hx
 have HB:=lh hw.b
 have HT:=lh hw.t
 have HN:=lh hw.n
 have HXB:=lh hw.xb
 have HXT:=lh hw.xt
 have HXN:=lh hw.xn
 have HROOM : Hid (k.length + (stepB fl ⟨5, n, s, false, b, texts, nums⟩).length ≤ cap):=lh hroom
 have HH:=lh h
 have HS:=lh hS
 have hlen : ((Lib.byteCells b).length : Int) = b.length:=by simp [Lib.byteCells]
 have hcv : IntKind.u64.wrap n = ((u64 n : Nat) : Int):=by
  rw [IntKind.wrap_u64]
  unfold u64
  omega
 clear hw hroom h hx hS
 show Calls Tryz.prog 77 #[.iface T v, .agg #[.int .i64 5, .int .i64 n, .string s, .bool false, .slice A1 b.length c1, .slice A2 texts.length c2, .slice A3 nums.length c3]] w _
 have hcl : ∀ w1, Kept [w.heap.size + 1] ((w.alloc (.cells #[.int .i64 5, .int .i64 n, .string s, .bool false, .slice A1 b.length c1, .slice A2 texts.length c2, .slice A3 nums.length c3] 102)).alloc (.cells #[] 5)) w1 → ∀ j u, [Value.int .i64 5, .int .i64 n, .string s, .bool false, .slice A1 b.length c1, .slice A2 texts.length c2, .slice A3 nums.length c3][j]? = some u → w1.cell? ⟨w.heap.size, j, none⟩ = some u:=fun w1 hk1 j u hu => box_cells (T:=102) hk1 (by simp) j u hu
 have HCL:=lh hcl
 have hkw : ∀ w1, Kept [w.heap.size + 1] ((w.alloc (.cells #[.int .i64 5, .int .i64 n, .string s, .bool false, .slice A1 b.length c1, .slice A2 texts.length c2, .slice A3 nums.length c3] 102)).alloc (.cells #[] 5)) w1 → Kept [] w w1:=fun w1 hk1 => (((Kept.refl [] w).alloc _).alloc _).trans hk1 (fun x hx => .inr (by have:=List.mem_singleton.1 hx; omega))
 have HKW:=lh hkw
 have hown0 : ((w.alloc (.cells #[.int .i64 5, .int .i64 n, .string s, .bool false, .slice A1 b.length c1, .slice A2 texts.length c2, .slice A3 nums.length c3] 102)).alloc (.cells #[] 5)).ownsRow (w.heap.size + 1) 5 1 (.slice (some ⟨w.heap.size + 1, 0, none⟩) 0 0) 0 []:=own_lit1 _ _
 have HOWN0:=lh hown0
 clear hcl hkw hown0
 go_enter Tryz.func77, Tryz.ntmps77
 go_wp2_with (first
  | (at_builtin; refine wl_append rfl _ _ 34 rfl (w.heap.size + 1) 5 Tryz.underlying34 info5b rfl (by decide) (.slice (some ⟨w.heap.size + 1, 0, none⟩) 0 0) 0 [] rfl HOWN0.out A1 b.length c1 (Lib.byteCells b) rfl (HB.out.kept0 (((Kept.refl _ _).alloc _).alloc _)) (bytes_one b) (by omega) (by omega) (by rw [alloc_size, alloc_size]; omega) ?_; intro v1 w1 hown hk1 hat; have HC:=lh (HCL.out w1 hk1); have HK:=lh (HKW.out w1 hk1); have HO:=lh hown; have HAT:=lh hat; have hc0:=HC.out 0 _ rfl; have hc1:=HC.out 1 _ rfl; have hc2:=HC.out 2 _ rfl; have hc3:=HC.out 3 _ rfl; have hc4:=HC.out 4 _ rfl; have hc5:=HC.out 5 _ rfl; have hc6:=HC.out 6 _ rfl; clear hown hk1 hat)
  | (refine wl_invoke rfl _ _ _ _ rfl T v rfl "putUVarint" rfl [.int .u64 (u64 n : Nat)] (by simp [go_sem]) _ (E.uvarint k w1 (u64 n) (u64_lt n) (E.keep _ _ _ HH.out HK.out) (by first | exact HROOM.out | (have:=HROOM.out; simpa [stepB, big_len] using this))) ?_; rintro e w2 ⟨rfl, ha, hk2⟩; refine ⟨_, rfl, ?_⟩; have HA:=lh ha; have HK2:=lh (HK.out.mono (T:=S) (by simp) |>.trans hk2 (fun x hx => .inl hx)); clear ha hk2))
 go_ret
 exact ⟨rfl, HA.out, HK2.out⟩
theorem put_7_0 {T : TypeId} {v : Value} {fl : Bool} {At : List UInt8 → World → Prop} {S : List Nat} {cap : Nat} (E : Enc T v fl At S cap) (x : St) (hx : RightB x) (hkind : x.kind = 7) (hn01 : x.n = 0) (A1 A2 A3 : Option Addr) (c1 c2 c3 : Nat) (w : World) (hw : StV (· ∉ S) w x A1 A2 A3) (k : List UInt8) (hS : ∀ s ∈ S, s < w.heap.size) (h : At k w) (hroom : k.length + (stepB fl x).length ≤ cap) : Calls Tryz.prog 77 #[.iface T v, .agg (stCells x A1 A2 A3 c1 c2 c3).toArray] w (PutR At S (k ++ stepB fl x) w):=by
 obtain ⟨kind, n, s, null, b, texts, nums⟩:=x
 simp only at hkind
 subst hkind
 simp only at hn01
 subst hn01
 have hnull : null = false:=by
  cases null with
  | false => rfl
  | true => exact absurd (hx.null rfl).1 (by simp)
 subst hnull
 have hb3 : b.length ≤ 300:=hx.b300
 have HX:=lh hx
 have HB:=lh hw.b
 have HT:=lh hw.t
 have HN:=lh hw.n
 have HXB:=lh hw.xb
 have HXT:=lh hw.xt
 have HXN:=lh hw.xn
 have HROOM : Hid (k.length + (stepB fl ⟨7, 0, s, false, b, texts, nums⟩).length ≤ cap):=lh hroom
 have HH:=lh h
 have HS:=lh hS
 have hlen : ((Lib.byteCells b).length : Int) = b.length:=by simp [Lib.byteCells]
 clear hw hroom h hx hS
 show Calls Tryz.prog 77 #[.iface T v, .agg #[.int .i64 7, .int .i64 0, .string s, .bool false, .slice A1 b.length c1, .slice A2 texts.length c2, .slice A3 nums.length c3]] w _
 have hcl : ∀ w1, Kept [w.heap.size + 1] ((w.alloc (.cells #[.int .i64 7, .int .i64 0, .string s, .bool false, .slice A1 b.length c1, .slice A2 texts.length c2, .slice A3 nums.length c3] 102)).alloc (.cells #[] 5)) w1 → ∀ j u, [Value.int .i64 7, .int .i64 0, .string s, .bool false, .slice A1 b.length c1, .slice A2 texts.length c2, .slice A3 nums.length c3][j]? = some u → w1.cell? ⟨w.heap.size, j, none⟩ = some u:=fun w1 hk1 j u hu => box_cells (T:=102) hk1 (by simp) j u hu
 have HCL:=lh hcl
 have hkw : ∀ w1, Kept [w.heap.size + 1] ((w.alloc (.cells #[.int .i64 7, .int .i64 0, .string s, .bool false, .slice A1 b.length c1, .slice A2 texts.length c2, .slice A3 nums.length c3] 102)).alloc (.cells #[] 5)) w1 → Kept [] w w1:=fun w1 hk1 => (((Kept.refl [] w).alloc _).alloc _).trans hk1 (fun x hx => .inr (by have:=List.mem_singleton.1 hx; omega))
 have HKW:=lh hkw
 have hown0 : ((w.alloc (.cells #[.int .i64 7, .int .i64 0, .string s, .bool false, .slice A1 b.length c1, .slice A2 texts.length c2, .slice A3 nums.length c3] 102)).alloc (.cells #[] 5)).ownsRow (w.heap.size + 1) 5 1 (.slice (some ⟨w.heap.size + 1, 0, none⟩) 0 0) 0 []:=own_lit1 _ _
 have HOWN0:=lh hown0
 clear hcl hkw hown0
 go_enter Tryz.func77, Tryz.ntmps77
 go_wp2_with (first
  | (at_builtin; refine wl_append rfl _ _ 34 rfl (w.heap.size + 1) 5 Tryz.underlying34 info5b rfl (by decide) (.slice (some ⟨w.heap.size + 1, 0, none⟩) 0 0) 0 [] rfl HOWN0.out A1 b.length c1 (Lib.byteCells b) rfl (HB.out.kept0 (((Kept.refl _ _).alloc _).alloc _)) (bytes_one b) (by omega) (by omega) (by rw [alloc_size, alloc_size]; omega) ?_; intro v1 w1 hown hk1 hat; have HC:=lh (HCL.out w1 hk1); have HK:=lh (HKW.out w1 hk1); have HO:=lh hown; have HAT:=lh hat; have hc0:=HC.out 0 _ rfl; have hc1:=HC.out 1 _ rfl; have hc2:=HC.out 2 _ rfl; have hc3:=HC.out 3 _ rfl; have hc4:=HC.out 4 _ rfl; have hc5:=HC.out 5 _ rfl; have hc6:=HC.out 6 _ rfl; clear hown hk1 hat)
  | (refine wl_invoke rfl _ _ _ _ rfl T v rfl "putBool" rfl [.bool false] (by simp [go_sem]) _ (E.bool k w1 false (E.keep _ _ _ HH.out HK.out) (by first | exact HROOM.out | (have:=HROOM.out; simpa [stepB, big_len] using this))) ?_; rintro e w2 ⟨rfl, ha, hk2⟩; refine ⟨_, rfl, ?_⟩; have HA:=lh ha; have HK2:=lh (HK.out.mono (T:=S) (by simp) |>.trans hk2 (fun x hx => .inl hx)); clear ha hk2))
 go_ret
 exact ⟨rfl, HA.out, HK2.out⟩
theorem put_7_1 {T : TypeId} {v : Value} {fl : Bool} {At : List UInt8 → World → Prop} {S : List Nat} {cap : Nat} (E : Enc T v fl At S cap) (x : St) (hx : RightB x) (hkind : x.kind = 7) (hn01 : x.n = 1) (A1 A2 A3 : Option Addr) (c1 c2 c3 : Nat) (w : World) (hw : StV (· ∉ S) w x A1 A2 A3) (k : List UInt8) (hS : ∀ s ∈ S, s < w.heap.size) (h : At k w) (hroom : k.length + (stepB fl x).length ≤ cap) : Calls Tryz.prog 77 #[.iface T v, .agg (stCells x A1 A2 A3 c1 c2 c3).toArray] w (PutR At S (k ++ stepB fl x) w):=by
 obtain ⟨kind, n, s, null, b, texts, nums⟩:=x
 simp only at hkind
 subst hkind
 simp only at hn01
 subst hn01
 have hnull : null = false:=by
  cases null with
  | false => rfl
  | true => exact absurd (hx.null rfl).1 (by simp)
 subst hnull
 have hb3 : b.length ≤ 300:=hx.b300
 have HX:=lh hx
 have HB:=lh hw.b
 have HT:=lh hw.t
 have HN:=lh hw.n
 have HXB:=lh hw.xb
 have HXT:=lh hw.xt
 have HXN:=lh hw.xn
 have HROOM : Hid (k.length + (stepB fl ⟨7, 1, s, false, b, texts, nums⟩).length ≤ cap):=lh hroom
 have HH:=lh h
 have HS:=lh hS
 have hlen : ((Lib.byteCells b).length : Int) = b.length:=by simp [Lib.byteCells]
 clear hw hroom h hx hS
 show Calls Tryz.prog 77 #[.iface T v, .agg #[.int .i64 7, .int .i64 1, .string s, .bool false, .slice A1 b.length c1, .slice A2 texts.length c2, .slice A3 nums.length c3]] w _
 have hcl : ∀ w1, Kept [w.heap.size + 1] ((w.alloc (.cells #[.int .i64 7, .int .i64 1, .string s, .bool false, .slice A1 b.length c1, .slice A2 texts.length c2, .slice A3 nums.length c3] 102)).alloc (.cells #[] 5)) w1 → ∀ j u, [Value.int .i64 7, .int .i64 1, .string s, .bool false, .slice A1 b.length c1, .slice A2 texts.length c2, .slice A3 nums.length c3][j]? = some u → w1.cell? ⟨w.heap.size, j, none⟩ = some u:=fun w1 hk1 j u hu => box_cells (T:=102) hk1 (by simp) j u hu
 have HCL:=lh hcl
 have hkw : ∀ w1, Kept [w.heap.size + 1] ((w.alloc (.cells #[.int .i64 7, .int .i64 1, .string s, .bool false, .slice A1 b.length c1, .slice A2 texts.length c2, .slice A3 nums.length c3] 102)).alloc (.cells #[] 5)) w1 → Kept [] w w1:=fun w1 hk1 => (((Kept.refl [] w).alloc _).alloc _).trans hk1 (fun x hx => .inr (by have:=List.mem_singleton.1 hx; omega))
 have HKW:=lh hkw
 have hown0 : ((w.alloc (.cells #[.int .i64 7, .int .i64 1, .string s, .bool false, .slice A1 b.length c1, .slice A2 texts.length c2, .slice A3 nums.length c3] 102)).alloc (.cells #[] 5)).ownsRow (w.heap.size + 1) 5 1 (.slice (some ⟨w.heap.size + 1, 0, none⟩) 0 0) 0 []:=own_lit1 _ _
 have HOWN0:=lh hown0
 clear hcl hkw hown0
 go_enter Tryz.func77, Tryz.ntmps77
 go_wp2_with (first
  | (at_builtin; refine wl_append rfl _ _ 34 rfl (w.heap.size + 1) 5 Tryz.underlying34 info5b rfl (by decide) (.slice (some ⟨w.heap.size + 1, 0, none⟩) 0 0) 0 [] rfl HOWN0.out A1 b.length c1 (Lib.byteCells b) rfl (HB.out.kept0 (((Kept.refl _ _).alloc _).alloc _)) (bytes_one b) (by omega) (by omega) (by rw [alloc_size, alloc_size]; omega) ?_; intro v1 w1 hown hk1 hat; have HC:=lh (HCL.out w1 hk1); have HK:=lh (HKW.out w1 hk1); have HO:=lh hown; have HAT:=lh hat; have hc0:=HC.out 0 _ rfl; have hc1:=HC.out 1 _ rfl; have hc2:=HC.out 2 _ rfl; have hc3:=HC.out 3 _ rfl; have hc4:=HC.out 4 _ rfl; have hc5:=HC.out 5 _ rfl; have hc6:=HC.out 6 _ rfl; clear hown hk1 hat)
  | (refine wl_invoke rfl _ _ _ _ rfl T v rfl "putBool" rfl [.bool true] (by simp [go_sem]) _ (E.bool k w1 true (E.keep _ _ _ HH.out HK.out) (by first | exact HROOM.out | (have:=HROOM.out; simpa [stepB, big_len] using this))) ?_; rintro e w2 ⟨rfl, ha, hk2⟩; refine ⟨_, rfl, ?_⟩; have HA:=lh ha; have HK2:=lh (HK.out.mono (T:=S) (by simp) |>.trans hk2 (fun x hx => .inl hx)); clear ha hk2))
 go_ret
 exact ⟨rfl, HA.out, HK2.out⟩
theorem put_8 {T : TypeId} {v : Value} {fl : Bool} {At : List UInt8 → World → Prop} {S : List Nat} {cap : Nat} (E : Enc T v fl At S cap) (x : St) (hx : RightB x) (hkind : x.kind = 8) (A1 A2 A3 : Option Addr) (c1 c2 c3 : Nat) (w : World) (hw : StV (· ∉ S) w x A1 A2 A3) (k : List UInt8) (hS : ∀ s ∈ S, s < w.heap.size) (h : At k w) (hroom : k.length + (stepB fl x).length ≤ cap) : Calls Tryz.prog 77 #[.iface T v, .agg (stCells x A1 A2 A3 c1 c2 c3).toArray] w (PutR At S (k ++ stepB fl x) w):=by
 obtain ⟨kind, n, s, null, b, texts, nums⟩:=x
 simp only at hkind
 subst hkind
 have hnull : null = false:=by
  cases null with
  | false => rfl
  | true => exact absurd (hx.null rfl).1 (by simp)
 subst hnull
 have hb3 : b.length ≤ 300:=hx.b300
 have HX:=lh hx
 have HB:=lh hw.b
 have HT:=lh hw.t
 have HN:=lh hw.n
 have HXB:=lh hw.xb
 have HXT:=lh hw.xt
 have HXN:=lh hw.xn
 have HROOM : Hid (k.length + (stepB fl ⟨8, n, s, false, b, texts, nums⟩).length ≤ cap):=lh hroom
 have HH:=lh h
 have HS:=lh hS
 have hlen : ((Lib.byteCells b).length : Int) = b.length:=by simp [Lib.byteCells]
 clear hw hroom h hx hS
 show Calls Tryz.prog 77 #[.iface T v, .agg #[.int .i64 8, .int .i64 n, .string s, .bool false, .slice A1 b.length c1, .slice A2 texts.length c2, .slice A3 nums.length c3]] w _
 have hcl : ∀ w1, Kept [w.heap.size + 1] ((w.alloc (.cells #[.int .i64 8, .int .i64 n, .string s, .bool false, .slice A1 b.length c1, .slice A2 texts.length c2, .slice A3 nums.length c3] 102)).alloc (.cells #[] 5)) w1 → ∀ j u, [Value.int .i64 8, .int .i64 n, .string s, .bool false, .slice A1 b.length c1, .slice A2 texts.length c2, .slice A3 nums.length c3][j]? = some u → w1.cell? ⟨w.heap.size, j, none⟩ = some u:=fun w1 hk1 j u hu => box_cells (T:=102) hk1 (by simp) j u hu
 have HCL:=lh hcl
 have hkw : ∀ w1, Kept [w.heap.size + 1] ((w.alloc (.cells #[.int .i64 8, .int .i64 n, .string s, .bool false, .slice A1 b.length c1, .slice A2 texts.length c2, .slice A3 nums.length c3] 102)).alloc (.cells #[] 5)) w1 → Kept [] w w1:=fun w1 hk1 => (((Kept.refl [] w).alloc _).alloc _).trans hk1 (fun x hx => .inr (by have:=List.mem_singleton.1 hx; omega))
 have HKW:=lh hkw
 have hown0 : ((w.alloc (.cells #[.int .i64 8, .int .i64 n, .string s, .bool false, .slice A1 b.length c1, .slice A2 texts.length c2, .slice A3 nums.length c3] 102)).alloc (.cells #[] 5)).ownsRow (w.heap.size + 1) 5 1 (.slice (some ⟨w.heap.size + 1, 0, none⟩) 0 0) 0 []:=own_lit1 _ _
 have HOWN0:=lh hown0
 clear hcl hkw hown0
 go_enter Tryz.func77, Tryz.ntmps77
 go_wp2_with (first
  | (at_builtin; refine wl_append rfl _ _ 34 rfl (w.heap.size + 1) 5 Tryz.underlying34 info5b rfl (by decide) (.slice (some ⟨w.heap.size + 1, 0, none⟩) 0 0) 0 [] rfl HOWN0.out A1 b.length c1 (Lib.byteCells b) rfl (HB.out.kept0 (((Kept.refl _ _).alloc _).alloc _)) (bytes_one b) (by omega) (by omega) (by rw [alloc_size, alloc_size]; omega) ?_; intro v1 w1 hown hk1 hat; have HC:=lh (HCL.out w1 hk1); have HK:=lh (HKW.out w1 hk1); have HO:=lh hown; have HAT:=lh hat; have hc0:=HC.out 0 _ rfl; have hc1:=HC.out 1 _ rfl; have hc2:=HC.out 2 _ rfl; have hc3:=HC.out 3 _ rfl; have hc4:=HC.out 4 _ rfl; have hc5:=HC.out 5 _ rfl; have hc6:=HC.out 6 _ rfl; clear hown hk1 hat)
  | (refine wl_invoke rfl _ _ _ _ rfl T v rfl "putArrayLength" rfl [.int .i64 n] (by simp [go_sem]) _ (E.arrlen k w1 n (HX.out.arr rfl).1 (HX.out.arr rfl).2 (E.keep _ _ _ HH.out HK.out) (by first | exact HROOM.out | (have:=HROOM.out; simpa [stepB, big_len] using this))) ?_; rintro e w2 ⟨rfl, ha, hk2⟩; refine ⟨_, rfl, ?_⟩; have HA:=lh ha; have HK2:=lh (HK.out.mono (T:=S) (by simp) |>.trans hk2 (fun x hx => .inl hx)); clear ha hk2))
 go_ret
 exact ⟨rfl, HA.out, HK2.out⟩
theorem put_9 {T : TypeId} {v : Value} {fl : Bool} {At : List UInt8 → World → Prop} {S : List Nat} {cap : Nat} (E : Enc T v fl At S cap) (x : St) (hx : RightB x) (hkind : x.kind = 9) (A1 A2 A3 : Option Addr) (c1 c2 c3 : Nat) (w : World) (hw : StV (· ∉ S) w x A1 A2 A3) (k : List UInt8) (hS : ∀ s ∈ S, s < w.heap.size) (h : At k w) (hroom : k.length + (stepB fl x).length ≤ cap) : Calls Tryz.prog 77 #[.iface T v, .agg (stCells x A1 A2 A3 c1 c2 c3).toArray] w (PutR At S (k ++ stepB fl x) w):=by
 obtain ⟨kind, n, s, null, b, texts, nums⟩:=x
 simp only at hkind
 subst hkind
 have hnull : null = false:=by
  cases null with
  | false => rfl
  | true => exact absurd (hx.null rfl).1 (by simp)
 subst hnull
 have hb3 : b.length ≤ 300:=hx.b300
 have HX:=lh hx
 have HB:=lh hw.b
 have HT:=lh hw.t
 have HN:=lh hw.n
 have HXB:=lh hw.xb
 have HXT:=lh hw.xt
 have HXN:=lh hw.xn
 have HROOM : Hid (k.length + (stepB fl ⟨9, n, s, false, b, texts, nums⟩).length ≤ cap):=lh hroom
 have HH:=lh h
 have HS:=lh hS
 have hlen : ((Lib.byteCells b).length : Int) = b.length:=by simp [Lib.byteCells]
 clear hw hroom h hx hS
 show Calls Tryz.prog 77 #[.iface T v, .agg #[.int .i64 9, .int .i64 n, .string s, .bool false, .slice A1 b.length c1, .slice A2 texts.length c2, .slice A3 nums.length c3]] w _
 have hcl : ∀ w1, Kept [w.heap.size + 1] ((w.alloc (.cells #[.int .i64 9, .int .i64 n, .string s, .bool false, .slice A1 b.length c1, .slice A2 texts.length c2, .slice A3 nums.length c3] 102)).alloc (.cells #[] 5)) w1 → ∀ j u, [Value.int .i64 9, .int .i64 n, .string s, .bool false, .slice A1 b.length c1, .slice A2 texts.length c2, .slice A3 nums.length c3][j]? = some u → w1.cell? ⟨w.heap.size, j, none⟩ = some u:=fun w1 hk1 j u hu => box_cells (T:=102) hk1 (by simp) j u hu
 have HCL:=lh hcl
 have hkw : ∀ w1, Kept [w.heap.size + 1] ((w.alloc (.cells #[.int .i64 9, .int .i64 n, .string s, .bool false, .slice A1 b.length c1, .slice A2 texts.length c2, .slice A3 nums.length c3] 102)).alloc (.cells #[] 5)) w1 → Kept [] w w1:=fun w1 hk1 => (((Kept.refl [] w).alloc _).alloc _).trans hk1 (fun x hx => .inr (by have:=List.mem_singleton.1 hx; omega))
 have HKW:=lh hkw
 have hown0 : ((w.alloc (.cells #[.int .i64 9, .int .i64 n, .string s, .bool false, .slice A1 b.length c1, .slice A2 texts.length c2, .slice A3 nums.length c3] 102)).alloc (.cells #[] 5)).ownsRow (w.heap.size + 1) 5 1 (.slice (some ⟨w.heap.size + 1, 0, none⟩) 0 0) 0 []:=own_lit1 _ _
 have HOWN0:=lh hown0
 clear hcl hkw hown0
 go_enter Tryz.func77, Tryz.ntmps77
 go_wp2_with (first
  | (at_builtin; refine wl_append rfl _ _ 34 rfl (w.heap.size + 1) 5 Tryz.underlying34 info5b rfl (by decide) (.slice (some ⟨w.heap.size + 1, 0, none⟩) 0 0) 0 [] rfl HOWN0.out A1 b.length c1 (Lib.byteCells b) rfl (HB.out.kept0 (((Kept.refl _ _).alloc _).alloc _)) (bytes_one b) (by omega) (by omega) (by rw [alloc_size, alloc_size]; omega) ?_; intro v1 w1 hown hk1 hat; have HC:=lh (HCL.out w1 hk1); have HK:=lh (HKW.out w1 hk1); have HO:=lh hown; have HAT:=lh hat; have hc0:=HC.out 0 _ rfl; have hc1:=HC.out 1 _ rfl; have hc2:=HC.out 2 _ rfl; have hc3:=HC.out 3 _ rfl; have hc4:=HC.out 4 _ rfl; have hc5:=HC.out 5 _ rfl; have hc6:=HC.out 6 _ rfl; clear hown hk1 hat)
  | (refine wl_invoke rfl _ _ _ _ rfl T v rfl "putString" rfl [.string s] (by simp [go_sem]) _ (E.text k w1 s (by have:=HX.out.s200; simp only at this; omega) (E.keep _ _ _ HH.out HK.out) (by first | exact HROOM.out | (have:=HROOM.out; simpa [stepB, big_len] using this))) ?_; rintro e w2 ⟨rfl, ha, hk2⟩; refine ⟨_, rfl, ?_⟩; have HA:=lh ha; have HK2:=lh (HK.out.mono (T:=S) (by simp) |>.trans hk2 (fun x hx => .inl hx)); clear ha hk2))
 go_ret
 exact ⟨rfl, HA.out, HK2.out⟩
theorem put_10n {T : TypeId} {v : Value} {fl : Bool} {At : List UInt8 → World → Prop} {S : List Nat} {cap : Nat} (E : Enc T v fl At S cap) (x : St) (hx : RightB x) (hkind : x.kind = 10) (hnull : x.null = true) (A1 A2 A3 : Option Addr) (c1 c2 c3 : Nat) (w : World) (hw : StV (· ∉ S) w x A1 A2 A3) (k : List UInt8) (hS : ∀ s ∈ S, s < w.heap.size) (h : At k w) (hroom : k.length + (stepB fl x).length ≤ cap) : Calls Tryz.prog 77 #[.iface T v, .agg (stCells x A1 A2 A3 c1 c2 c3).toArray] w (PutR At S (k ++ stepB fl x) w):=by
 obtain ⟨kind, n, s, null, b, texts, nums⟩:=x
 simp only at hkind
 subst hkind
 simp only at hnull
 subst hnull
 have hb3 : b.length ≤ 300:=hx.b300
 have HX:=lh hx
 have HB:=lh hw.b
 have HT:=lh hw.t
 have HN:=lh hw.n
 have HXB:=lh hw.xb
 have HXT:=lh hw.xt
 have HXN:=lh hw.xn
 have HROOM : Hid (k.length + (stepB fl ⟨10, n, s, true, b, texts, nums⟩).length ≤ cap):=lh hroom
 have HH:=lh h
 have HS:=lh hS
 have hlen : ((Lib.byteCells b).length : Int) = b.length:=by simp [Lib.byteCells]
 clear hw hroom h hx hS
 show Calls Tryz.prog 77 #[.iface T v, .agg #[.int .i64 10, .int .i64 n, .string s, .bool true, .slice A1 b.length c1, .slice A2 texts.length c2, .slice A3 nums.length c3]] w _
 have hcl : ∀ w1, Kept [w.heap.size + 1] ((w.alloc (.cells #[.int .i64 10, .int .i64 n, .string s, .bool true, .slice A1 b.length c1, .slice A2 texts.length c2, .slice A3 nums.length c3] 102)).alloc (.cells #[] 5)) w1 → ∀ j u, [Value.int .i64 10, .int .i64 n, .string s, .bool true, .slice A1 b.length c1, .slice A2 texts.length c2, .slice A3 nums.length c3][j]? = some u → w1.cell? ⟨w.heap.size, j, none⟩ = some u:=fun w1 hk1 j u hu => box_cells (T:=102) hk1 (by simp) j u hu
 have HCL:=lh hcl
 have hkw : ∀ w1, Kept [w.heap.size + 1] ((w.alloc (.cells #[.int .i64 10, .int .i64 n, .string s, .bool true, .slice A1 b.length c1, .slice A2 texts.length c2, .slice A3 nums.length c3] 102)).alloc (.cells #[] 5)) w1 → Kept [] w w1:=fun w1 hk1 => (((Kept.refl [] w).alloc _).alloc _).trans hk1 (fun x hx => .inr (by have:=List.mem_singleton.1 hx; omega))
 have HKW:=lh hkw
 have hown0 : ((w.alloc (.cells #[.int .i64 10, .int .i64 n, .string s, .bool true, .slice A1 b.length c1, .slice A2 texts.length c2, .slice A3 nums.length c3] 102)).alloc (.cells #[] 5)).ownsRow (w.heap.size + 1) 5 1 (.slice (some ⟨w.heap.size + 1, 0, none⟩) 0 0) 0 []:=own_lit1 _ _
 have HOWN0:=lh hown0
 clear hcl hkw hown0
 go_enter Tryz.func77, Tryz.ntmps77
 go_wp2_with (first
  | (at_builtin; refine wl_append rfl _ _ 34 rfl (w.heap.size + 1) 5 Tryz.underlying34 info5b rfl (by decide) (.slice (some ⟨w.heap.size + 1, 0, none⟩) 0 0) 0 [] rfl HOWN0.out A1 b.length c1 (Lib.byteCells b) rfl (HB.out.kept0 (((Kept.refl _ _).alloc _).alloc _)) (bytes_one b) (by omega) (by omega) (by rw [alloc_size, alloc_size]; omega) ?_; intro v1 w1 hown hk1 hat; have HC:=lh (HCL.out w1 hk1); have HK:=lh (HKW.out w1 hk1); have HO:=lh hown; have HAT:=lh hat; have hc0:=HC.out 0 _ rfl; have hc1:=HC.out 1 _ rfl; have hc2:=HC.out 2 _ rfl; have hc3:=HC.out 3 _ rfl; have hc4:=HC.out 4 _ rfl; have hc5:=HC.out 5 _ rfl; have hc6:=HC.out 6 _ rfl; clear hown hk1 hat)
  | (refine wl_invoke rfl _ _ _ _ rfl T v rfl "putNullableString" rfl [.pointer none] (by simp [go_sem]) _ (E.nullText k w1 (E.keep _ _ _ HH.out HK.out) (by first | exact HROOM.out | (have:=HROOM.out; simpa [stepB, big_len] using this))) ?_; rintro e w2 ⟨rfl, ha, hk2⟩; refine ⟨_, rfl, ?_⟩; have HA:=lh ha; have HK2:=lh (HK.out.mono (T:=S) (by simp) |>.trans hk2 (fun x hx => .inl hx)); clear ha hk2))
 go_ret
 exact ⟨rfl, HA.out, HK2.out⟩
theorem put_10 {T : TypeId} {v : Value} {fl : Bool} {At : List UInt8 → World → Prop} {S : List Nat} {cap : Nat} (E : Enc T v fl At S cap) (x : St) (hx : RightB x) (hkind : x.kind = 10) (hnull : x.null = false) (A1 A2 A3 : Option Addr) (c1 c2 c3 : Nat) (w : World) (hw : StV (· ∉ S) w x A1 A2 A3) (k : List UInt8) (hS : ∀ s ∈ S, s < w.heap.size) (h : At k w) (hroom : k.length + (stepB fl x).length ≤ cap) : Calls Tryz.prog 77 #[.iface T v, .agg (stCells x A1 A2 A3 c1 c2 c3).toArray] w (PutR At S (k ++ stepB fl x) w):=by
 obtain ⟨kind, n, s, null, b, texts, nums⟩:=x
 simp only at hkind
 subst hkind
 simp only at hnull
 subst hnull
 have hb3 : b.length ≤ 300:=hx.b300
 have HX:=lh hx
 have HB:=lh hw.b
 have HT:=lh hw.t
 have HN:=lh hw.n
 have HXB:=lh hw.xb
 have HXT:=lh hw.xt
 have HXN:=lh hw.xn
 have HROOM : Hid (k.length + (stepB fl ⟨10, n, s, false, b, texts, nums⟩).length ≤ cap):=lh hroom
 have HH:=lh h
 have HS:=lh hS
 have hlen : ((Lib.byteCells b).length : Int) = b.length:=by simp [Lib.byteCells]
 clear hw hroom h hx hS
 show Calls Tryz.prog 77 #[.iface T v, .agg #[.int .i64 10, .int .i64 n, .string s, .bool false, .slice A1 b.length c1, .slice A2 texts.length c2, .slice A3 nums.length c3]] w _
 have hcl : ∀ w1, Kept [w.heap.size + 1] ((w.alloc (.cells #[.int .i64 10, .int .i64 n, .string s, .bool false, .slice A1 b.length c1, .slice A2 texts.length c2, .slice A3 nums.length c3] 102)).alloc (.cells #[] 5)) w1 → ∀ j u, [Value.int .i64 10, .int .i64 n, .string s, .bool false, .slice A1 b.length c1, .slice A2 texts.length c2, .slice A3 nums.length c3][j]? = some u → w1.cell? ⟨w.heap.size, j, none⟩ = some u:=fun w1 hk1 j u hu => box_cells (T:=102) hk1 (by simp) j u hu
 have HCL:=lh hcl
 have hkw : ∀ w1, Kept [w.heap.size + 1] ((w.alloc (.cells #[.int .i64 10, .int .i64 n, .string s, .bool false, .slice A1 b.length c1, .slice A2 texts.length c2, .slice A3 nums.length c3] 102)).alloc (.cells #[] 5)) w1 → Kept [] w w1:=fun w1 hk1 => (((Kept.refl [] w).alloc _).alloc _).trans hk1 (fun x hx => .inr (by have:=List.mem_singleton.1 hx; omega))
 have HKW:=lh hkw
 have hown0 : ((w.alloc (.cells #[.int .i64 10, .int .i64 n, .string s, .bool false, .slice A1 b.length c1, .slice A2 texts.length c2, .slice A3 nums.length c3] 102)).alloc (.cells #[] 5)).ownsRow (w.heap.size + 1) 5 1 (.slice (some ⟨w.heap.size + 1, 0, none⟩) 0 0) 0 []:=own_lit1 _ _
 have HOWN0:=lh hown0
 clear hcl hkw hown0
 go_enter Tryz.func77, Tryz.ntmps77
 go_wp2_with (first
  | (at_builtin; refine wl_append rfl _ _ 34 rfl (w.heap.size + 1) 5 Tryz.underlying34 info5b rfl (by decide) (.slice (some ⟨w.heap.size + 1, 0, none⟩) 0 0) 0 [] rfl HOWN0.out A1 b.length c1 (Lib.byteCells b) rfl (HB.out.kept0 (((Kept.refl _ _).alloc _).alloc _)) (bytes_one b) (by omega) (by omega) (by rw [alloc_size, alloc_size]; omega) ?_; intro v1 w1 hown hk1 hat; have HC:=lh (HCL.out w1 hk1); have HK:=lh (HKW.out w1 hk1); have HO:=lh hown; have HAT:=lh hat; have hc0:=HC.out 0 _ rfl; have hc1:=HC.out 1 _ rfl; have hc2:=HC.out 2 _ rfl; have hc3:=HC.out 3 _ rfl; have hc4:=HC.out 4 _ rfl; have hc5:=HC.out 5 _ rfl; have hc6:=HC.out 6 _ rfl; clear hown hk1 hat)
  | (refine wl_invoke rfl _ _ _ _ rfl T v rfl "putNullableString" rfl [.pointer (some ⟨w.heap.size, 2, none⟩)] (by simp [go_sem]) _ (E.someText k w1 ⟨w.heap.size, 2, none⟩ s (by have:=HX.out.s200; simp only at this; omega) hc2 (E.keep _ _ _ HH.out HK.out) (by first | exact HROOM.out | (have:=HROOM.out; simpa [stepB, big_len] using this))) ?_; rintro e w2 ⟨rfl, ha, hk2⟩; refine ⟨_, rfl, ?_⟩; have HA:=lh ha; have HK2:=lh (HK.out.mono (T:=S) (by simp) |>.trans hk2 (fun x hx => .inl hx)); clear ha hk2))
 go_ret
 exact ⟨rfl, HA.out, HK2.out⟩
theorem put_13 {T : TypeId} {v : Value} {fl : Bool} {At : List UInt8 → World → Prop} {S : List Nat} {cap : Nat} (E : Enc T v fl At S cap) (x : St) (hx : RightB x) (hkind : x.kind = 13) (A1 A2 A3 : Option Addr) (c1 c2 c3 : Nat) (w : World) (hw : StV (· ∉ S) w x A1 A2 A3) (k : List UInt8) (hS : ∀ s ∈ S, s < w.heap.size) (h : At k w) (hroom : k.length + (stepB fl x).length ≤ cap) : Calls Tryz.prog 77 #[.iface T v, .agg (stCells x A1 A2 A3 c1 c2 c3).toArray] w (PutR At S (k ++ stepB fl x) w):=by
 obtain ⟨kind, n, s, null, b, texts, nums⟩:=x
 simp only at hkind
 subst hkind
 have hnull : null = false:=by
  cases null with
  | false => rfl
  | true => exact absurd (hx.null rfl).1 (by simp)
 subst hnull
 have hb3 : b.length ≤ 300:=hx.b300
 have HX:=lh hx
 have HB:=lh hw.b
 have HT:=lh hw.t
 have HN:=lh hw.n
 have HXB:=lh hw.xb
 have HXT:=lh hw.xt
 have HXN:=lh hw.xn
 have HROOM : Hid (k.length + (stepB fl ⟨13, n, s, false, b, texts, nums⟩).length ≤ cap):=lh hroom
 have HH:=lh h
 have HS:=lh hS
 have hlen : ((Lib.byteCells b).length : Int) = b.length:=by simp [Lib.byteCells]
 clear hw hroom h hx hS
 show Calls Tryz.prog 77 #[.iface T v, .agg #[.int .i64 13, .int .i64 n, .string s, .bool false, .slice A1 b.length c1, .slice A2 texts.length c2, .slice A3 nums.length c3]] w _
 have hcl : ∀ w1, Kept [w.heap.size + 1] ((w.alloc (.cells #[.int .i64 13, .int .i64 n, .string s, .bool false, .slice A1 b.length c1, .slice A2 texts.length c2, .slice A3 nums.length c3] 102)).alloc (.cells #[] 5)) w1 → ∀ j u, [Value.int .i64 13, .int .i64 n, .string s, .bool false, .slice A1 b.length c1, .slice A2 texts.length c2, .slice A3 nums.length c3][j]? = some u → w1.cell? ⟨w.heap.size, j, none⟩ = some u:=fun w1 hk1 j u hu => box_cells (T:=102) hk1 (by simp) j u hu
 have HCL:=lh hcl
 have hkw : ∀ w1, Kept [w.heap.size + 1] ((w.alloc (.cells #[.int .i64 13, .int .i64 n, .string s, .bool false, .slice A1 b.length c1, .slice A2 texts.length c2, .slice A3 nums.length c3] 102)).alloc (.cells #[] 5)) w1 → Kept [] w w1:=fun w1 hk1 => (((Kept.refl [] w).alloc _).alloc _).trans hk1 (fun x hx => .inr (by have:=List.mem_singleton.1 hx; omega))
 have HKW:=lh hkw
 have hown0 : ((w.alloc (.cells #[.int .i64 13, .int .i64 n, .string s, .bool false, .slice A1 b.length c1, .slice A2 texts.length c2, .slice A3 nums.length c3] 102)).alloc (.cells #[] 5)).ownsRow (w.heap.size + 1) 5 1 (.slice (some ⟨w.heap.size + 1, 0, none⟩) 0 0) 0 []:=own_lit1 _ _
 have HOWN0:=lh hown0
 clear hcl hkw hown0
 go_enter Tryz.func77, Tryz.ntmps77
 go_wp2_with (first
  | (at_builtin; refine wl_append rfl _ _ 34 rfl (w.heap.size + 1) 5 Tryz.underlying34 info5b rfl (by decide) (.slice (some ⟨w.heap.size + 1, 0, none⟩) 0 0) 0 [] rfl HOWN0.out A1 b.length c1 (Lib.byteCells b) rfl (HB.out.kept0 (((Kept.refl _ _).alloc _).alloc _)) (bytes_one b) (by omega) (by omega) (by rw [alloc_size, alloc_size]; omega) ?_; intro v1 w1 hown hk1 hat; have HC:=lh (HCL.out w1 hk1); have HK:=lh (HKW.out w1 hk1); have HO:=lh hown; have HAT:=lh hat; have hc0:=HC.out 0 _ rfl; have hc1:=HC.out 1 _ rfl; have hc2:=HC.out 2 _ rfl; have hc3:=HC.out 3 _ rfl; have hc4:=HC.out 4 _ rfl; have hc5:=HC.out 5 _ rfl; have hc6:=HC.out 6 _ rfl; clear hown hk1 hat)
  | (refine wl_invoke rfl _ _ _ _ rfl T v rfl "putStringArray" rfl [.slice A2 texts.length c2] (by simp [go_sem]) _ (E.texts k w1 texts A2 c2 HX.out.t10 HX.out.t60 (HT.out.kept0 HK.out) HXT.out (E.keep _ _ _ HH.out HK.out) (by first | exact HROOM.out | (have:=HROOM.out; simpa [stepB, big_len] using this))) ?_; rintro e w2 ⟨rfl, ha, hk2⟩; refine ⟨_, rfl, ?_⟩; have HA:=lh ha; have HK2:=lh (HK.out.mono (T:=S) (by simp) |>.trans hk2 (fun x hx => .inl hx)); clear ha hk2))
 go_ret
 exact ⟨rfl, HA.out, HK2.out⟩
theorem put_15 {T : TypeId} {v : Value} {fl : Bool} {At : List UInt8 → World → Prop} {S : List Nat} {cap : Nat} (E : Enc T v fl At S cap) (x : St) (hx : RightB x) (hkind : x.kind = 15) (A1 A2 A3 : Option Addr) (c1 c2 c3 : Nat) (w : World) (hw : StV (· ∉ S) w x A1 A2 A3) (k : List UInt8) (hS : ∀ s ∈ S, s < w.heap.size) (h : At k w) (hroom : k.length + (stepB fl x).length ≤ cap) : Calls Tryz.prog 77 #[.iface T v, .agg (stCells x A1 A2 A3 c1 c2 c3).toArray] w (PutR At S (k ++ stepB fl x) w):=by
 obtain ⟨kind, n, s, null, b, texts, nums⟩:=x
 simp only at hkind
 subst hkind
 have hnull : null = false:=by
  cases null with
  | false => rfl
  | true => exact absurd (hx.null rfl).1 (by simp)
 subst hnull
 have hb3 : b.length ≤ 300:=hx.b300
 have HX:=lh hx
 have HB:=lh hw.b
 have HT:=lh hw.t
 have HN:=lh hw.n
 have HXB:=lh hw.xb
 have HXT:=lh hw.xt
 have HXN:=lh hw.xn
 have HROOM : Hid (k.length + (stepB fl ⟨15, n, s, false, b, texts, nums⟩).length ≤ cap):=lh hroom
 have HH:=lh h
 have HS:=lh hS
 have hlen : ((Lib.byteCells b).length : Int) = b.length:=by simp [Lib.byteCells]
 clear hw hroom h hx hS
 show Calls Tryz.prog 77 #[.iface T v, .agg #[.int .i64 15, .int .i64 n, .string s, .bool false, .slice A1 b.length c1, .slice A2 texts.length c2, .slice A3 nums.length c3]] w _
 have hcl : ∀ w1, Kept [w.heap.size + 1] ((w.alloc (.cells #[.int .i64 15, .int .i64 n, .string s, .bool false, .slice A1 b.length c1, .slice A2 texts.length c2, .slice A3 nums.length c3] 102)).alloc (.cells #[] 5)) w1 → ∀ j u, [Value.int .i64 15, .int .i64 n, .string s, .bool false, .slice A1 b.length c1, .slice A2 texts.length c2, .slice A3 nums.length c3][j]? = some u → w1.cell? ⟨w.heap.size, j, none⟩ = some u:=fun w1 hk1 j u hu => box_cells (T:=102) hk1 (by simp) j u hu
 have HCL:=lh hcl
 have hkw : ∀ w1, Kept [w.heap.size + 1] ((w.alloc (.cells #[.int .i64 15, .int .i64 n, .string s, .bool false, .slice A1 b.length c1, .slice A2 texts.length c2, .slice A3 nums.length c3] 102)).alloc (.cells #[] 5)) w1 → Kept [] w w1:=fun w1 hk1 => (((Kept.refl [] w).alloc _).alloc _).trans hk1 (fun x hx => .inr (by have:=List.mem_singleton.1 hx; omega))
 have HKW:=lh hkw
 have hown0 : ((w.alloc (.cells #[.int .i64 15, .int .i64 n, .string s, .bool false, .slice A1 b.length c1, .slice A2 texts.length c2, .slice A3 nums.length c3] 102)).alloc (.cells #[] 5)).ownsRow (w.heap.size + 1) 5 1 (.slice (some ⟨w.heap.size + 1, 0, none⟩) 0 0) 0 []:=own_lit1 _ _
 have HOWN0:=lh hown0
 clear hcl hkw hown0
 go_enter Tryz.func77, Tryz.ntmps77
 go_wp2_with (first
  | (at_builtin; refine wl_append rfl _ _ 34 rfl (w.heap.size + 1) 5 Tryz.underlying34 info5b rfl (by decide) (.slice (some ⟨w.heap.size + 1, 0, none⟩) 0 0) 0 [] rfl HOWN0.out A1 b.length c1 (Lib.byteCells b) rfl (HB.out.kept0 (((Kept.refl _ _).alloc _).alloc _)) (bytes_one b) (by omega) (by omega) (by rw [alloc_size, alloc_size]; omega) ?_; intro v1 w1 hown hk1 hat; have HC:=lh (HCL.out w1 hk1); have HK:=lh (HKW.out w1 hk1); have HO:=lh hown; have HAT:=lh hat; have hc0:=HC.out 0 _ rfl; have hc1:=HC.out 1 _ rfl; have hc2:=HC.out 2 _ rfl; have hc3:=HC.out 3 _ rfl; have hc4:=HC.out 4 _ rfl; have hc5:=HC.out 5 _ rfl; have hc6:=HC.out 6 _ rfl; clear hown hk1 hat)
  | (refine wl_invoke rfl _ _ _ _ rfl T v rfl "putInt64Array" rfl [.slice A3 nums.length c3] (by simp [go_sem]) _ (E.i64s k w1 nums A3 c3 HX.out.n10 (HN.out.kept0 HK.out) HXN.out (E.keep _ _ _ HH.out HK.out) (by first | exact HROOM.out | (have:=HROOM.out; simpa [stepB, big_len] using this))) ?_; rintro e w2 ⟨rfl, ha, hk2⟩; refine ⟨_, rfl, ?_⟩; have HA:=lh ha; have HK2:=lh (HK.out.mono (T:=S) (by simp) |>.trans hk2 (fun x hx => .inl hx)); clear ha hk2))
 go_ret
 exact ⟨rfl, HA.out, HK2.out⟩
theorem put_16 {T : TypeId} {v : Value} {fl : Bool} {At : List UInt8 → World → Prop} {S : List Nat} {cap : Nat} (E : Enc T v fl At S cap) (x : St) (hx : RightB x) (hkind : x.kind = 16) (A1 A2 A3 : Option Addr) (c1 c2 c3 : Nat) (w : World) (hw : StV (· ∉ S) w x A1 A2 A3) (k : List UInt8) (hS : ∀ s ∈ S, s < w.heap.size) (h : At k w) (hroom : k.length + (stepB fl x).length ≤ cap) : Calls Tryz.prog 77 #[.iface T v, .agg (stCells x A1 A2 A3 c1 c2 c3).toArray] w (PutR At S (k ++ stepB fl x) w):=by
 obtain ⟨kind, n, s, null, b, texts, nums⟩:=x
 simp only at hkind
 subst hkind
 have hnull : null = false:=by
  cases null with
  | false => rfl
  | true => exact absurd (hx.null rfl).1 (by simp)
 subst hnull
 have hb3 : b.length ≤ 300:=hx.b300
 have HX:=lh hx
 have HB:=lh hw.b
 have HT:=lh hw.t
 have HN:=lh hw.n
 have HXB:=lh hw.xb
 have HXT:=lh hw.xt
 have HXN:=lh hw.xn
 have HROOM : Hid (k.length + (stepB fl ⟨16, n, s, false, b, texts, nums⟩).length ≤ cap):=lh hroom
 have HH:=lh h
 have HS:=lh hS
 have hlen : ((Lib.byteCells b).length : Int) = b.length:=by simp [Lib.byteCells]
 clear hw hroom h hx hS
 show Calls Tryz.prog 77 #[.iface T v, .agg #[.int .i64 16, .int .i64 n, .string s, .bool false, .slice A1 b.length c1, .slice A2 texts.length c2, .slice A3 nums.length c3]] w _
 have hcl : ∀ w1, Kept [w.heap.size + 1] ((w.alloc (.cells #[.int .i64 16, .int .i64 n, .string s, .bool false, .slice A1 b.length c1, .slice A2 texts.length c2, .slice A3 nums.length c3] 102)).alloc (.cells #[] 5)) w1 → ∀ j u, [Value.int .i64 16, .int .i64 n, .string s, .bool false, .slice A1 b.length c1, .slice A2 texts.length c2, .slice A3 nums.length c3][j]? = some u → w1.cell? ⟨w.heap.size, j, none⟩ = some u:=fun w1 hk1 j u hu => box_cells (T:=102) hk1 (by simp) j u hu
 have HCL:=lh hcl
 have hkw : ∀ w1, Kept [w.heap.size + 1] ((w.alloc (.cells #[.int .i64 16, .int .i64 n, .string s, .bool false, .slice A1 b.length c1, .slice A2 texts.length c2, .slice A3 nums.length c3] 102)).alloc (.cells #[] 5)) w1 → Kept [] w w1:=fun w1 hk1 => (((Kept.refl [] w).alloc _).alloc _).trans hk1 (fun x hx => .inr (by have:=List.mem_singleton.1 hx; omega))
 have HKW:=lh hkw
 have hown0 : ((w.alloc (.cells #[.int .i64 16, .int .i64 n, .string s, .bool false, .slice A1 b.length c1, .slice A2 texts.length c2, .slice A3 nums.length c3] 102)).alloc (.cells #[] 5)).ownsRow (w.heap.size + 1) 5 1 (.slice (some ⟨w.heap.size + 1, 0, none⟩) 0 0) 0 []:=own_lit1 _ _
 have HOWN0:=lh hown0
 clear hcl hkw hown0
 go_enter Tryz.func77, Tryz.ntmps77
 go_wp2_with (first
  | (at_builtin; refine wl_append rfl _ _ 34 rfl (w.heap.size + 1) 5 Tryz.underlying34 info5b rfl (by decide) (.slice (some ⟨w.heap.size + 1, 0, none⟩) 0 0) 0 [] rfl HOWN0.out A1 b.length c1 (Lib.byteCells b) rfl (HB.out.kept0 (((Kept.refl _ _).alloc _).alloc _)) (bytes_one b) (by omega) (by omega) (by rw [alloc_size, alloc_size]; omega) ?_; intro v1 w1 hown hk1 hat; have HC:=lh (HCL.out w1 hk1); have HK:=lh (HKW.out w1 hk1); have HO:=lh hown; have HAT:=lh hat; have hc0:=HC.out 0 _ rfl; have hc1:=HC.out 1 _ rfl; have hc2:=HC.out 2 _ rfl; have hc3:=HC.out 3 _ rfl; have hc4:=HC.out 4 _ rfl; have hc5:=HC.out 5 _ rfl; have hc6:=HC.out 6 _ rfl; clear hown hk1 hat)
  | (refine wl_invoke rfl _ _ _ _ rfl T v rfl "putRawBytes" rfl [.slice A1 b.length c1] (by simp [go_sem]) _ (E.raw k w1 b A1 c1 HX.out.b300 (HB.out.kept0 HK.out) HXB.out (E.keep _ _ _ HH.out HK.out) (by first | exact HROOM.out | (have:=HROOM.out; simpa [stepB, big_len] using this))) ?_; rintro e w2 ⟨rfl, ha, hk2⟩; refine ⟨_, rfl, ?_⟩; have HA:=lh ha; have HK2:=lh (HK.out.mono (T:=S) (by simp) |>.trans hk2 (fun x hx => .inl hx)); clear ha hk2))
 go_ret
 exact ⟨rfl, HA.out, HK2.out⟩
end Go.Proofs.YtmpjikihnmagoaaGreatDoor
