/-
  A datum is put (77), kind by kind. Conditions: a right datum; room.
-/
import Derived.Test.YtmpjikihnmagoaaGreatDoorZT15
import Derived.Test.YtmpjikihnmagoaaGreatDoorZT20
set_option maxRecDepth 100000
set_option maxHeartbeats 3200000
namespace Go.Proofs.YtmpjikihnmagoaaGreatDoor
open Go.RowKit
theorem put_11n {T : TypeId} {v : Value} {fl : Bool} {At : List UInt8 → World → Prop} {S : List Nat} {cap : Nat} (E : Enc T v fl At S cap) (x : St) (hx : RightB x) (hkind : x.kind = 11) (hnull : x.null = true) (A1 A2 A3 : Option Addr) (c1 c2 c3 : Nat) (w : World) (hw : StV (· ∉ S) w x A1 A2 A3) (k : List UInt8) (hS : ∀ s ∈ S, s < w.heap.size) (h : At k w) (hroom : k.length + (stepB fl x).length ≤ cap) : Calls Tryz.prog 77 #[.iface T v, .agg (stCells x A1 A2 A3 c1 c2 c3).toArray] w (PutR At S (k ++ stepB fl x) w):=by
 obtain ⟨kind, n, s, null, b, texts, nums⟩:=x
 simp only at hkind
 subst hkind
 simp only at hnull
 subst hnull
 have hb3 : b.length ≤ 300:=hx.b300
 have HX:=lh hx
 have HB:=lh hw.b
 have HT:=lh hw.t
 have HN:=lh hw.n
 have HXB:=lh hw.xb
 have HXT:=lh hw.xt
 have HXN:=lh hw.xn
 have HROOM : Hid (k.length + (stepB fl ⟨11, n, s, true, b, texts, nums⟩).length ≤ cap):=lh hroom
 have HH:=lh h
 have HS:=lh hS
 have hlen : ((Lib.byteCells b).length : Int) = b.length:=by simp [Lib.byteCells]
 clear hw hroom h hx hS
 show Calls Tryz.prog 77 #[.iface T v, .agg #[.int .i64 11, .int .i64 n, .string s, .bool true, .slice A1 b.length c1, .slice A2 texts.length c2, .slice A3 nums.length c3]] w _
 have hcl : ∀ w1, Kept [w.heap.size + 1] ((w.alloc (.cells #[.int .i64 11, .int .i64 n, .string s, .bool true, .slice A1 b.length c1, .slice A2 texts.length c2, .slice A3 nums.length c3] 102)).alloc (.cells #[] 5)) w1 → ∀ j u, [Value.int .i64 11, .int .i64 n, .string s, .bool true, .slice A1 b.length c1, .slice A2 texts.length c2, .slice A3 nums.length c3][j]? = some u → w1.cell? ⟨w.heap.size, j, none⟩ = some u:=fun w1 hk1 j u hu => box_cells (T:=102) hk1 (by simp) j u hu
 have HCL:=lh hcl
 have hkw : ∀ w1, Kept [w.heap.size + 1] ((w.alloc (.cells #[.int .i64 11, .int .i64 n, .string s, .bool true, .slice A1 b.length c1, .slice A2 texts.length c2, .slice A3 nums.length c3] 102)).alloc (.cells #[] 5)) w1 → Kept [] w w1:=fun w1 hk1 => (((Kept.refl [] w).alloc _).alloc _).trans hk1 (fun x hx => .inr (by have:=List.mem_singleton.1 hx; omega))
 have HKW:=lh hkw
 have hown0 : ((w.alloc (.cells #[.int .i64 11, .int .i64 n, .string s, .bool true, .slice A1 b.length c1, .slice A2 texts.length c2, .slice A3 nums.length c3] 102)).alloc (.cells #[] 5)).ownsRow (w.heap.size + 1) 5 1 (.slice (some ⟨w.heap.size + 1, 0, none⟩) 0 0) 0 []:=own_lit1 _ _
 have HOWN0:=lh hown0
 clear hcl hkw hown0
 go_enter Tryz.func77, Tryz.ntmps77
 go_wp2_with (first
  | (at_builtin; refine wl_append rfl _ _ 34 rfl (w.heap.size + 1) 5 Tryz.underlying34 info5b rfl (by decide) (.slice (some ⟨w.heap.size + 1, 0, none⟩) 0 0) 0 [] rfl HOWN0.out A1 b.length c1 (Lib.byteCells b) rfl (HB.out.kept0 (((Kept.refl _ _).alloc _).alloc _)) (bytes_one b) (by omega) (by omega) (by rw [alloc_size, alloc_size]; omega) ?_; intro v1 w1 hown hk1 hat; have HC:=lh (HCL.out w1 hk1); have HK:=lh (HKW.out w1 hk1); have HO:=lh hown; have HAT:=lh hat; have hc0:=HC.out 0 _ rfl; have hc1:=HC.out 1 _ rfl; have hc2:=HC.out 2 _ rfl; have hc3:=HC.out 3 _ rfl; have hc4:=HC.out 4 _ rfl; have hc5:=HC.out 5 _ rfl; have hc6:=HC.out 6 _ rfl; clear hown hk1 hat)
  | (refine wl_invoke rfl _ _ _ _ rfl T v rfl "putBytes" rfl [.slice none 0 0] (by simp [go_sem]) _ (E.nil k w1 0 (E.keep _ _ _ HH.out HK.out) (by first | exact HROOM.out | (have:=HROOM.out; simpa [stepB, big_len] using this))) ?_; rintro e w2 ⟨rfl, ha, hk2⟩; refine ⟨_, rfl, ?_⟩; have HA:=lh ha; have HK2:=lh (HK.out.mono (T:=S) (by simp) |>.trans hk2 (fun x hx => .inl hx)); clear ha hk2))
 go_ret
 exact ⟨rfl, HA.out, HK2.out⟩
theorem put_11 {T : TypeId} {v : Value} {fl : Bool} {At : List UInt8 → World → Prop} {S : List Nat} {cap : Nat} (E : Enc T v fl At S cap) (x : St) (hx : RightB x) (hkind : x.kind = 11) (hnull : x.null = false) (A1 A2 A3 : Option Addr) (c1 c2 c3 : Nat) (w : World) (hw : StV (· ∉ S) w x A1 A2 A3) (k : List UInt8) (hS : ∀ s ∈ S, s < w.heap.size) (h : At k w) (hroom : k.length + (stepB fl x).length ≤ cap) : Calls Tryz.prog 77 #[.iface T v, .agg (stCells x A1 A2 A3 c1 c2 c3).toArray] w (PutR At S (k ++ stepB fl x) w):=by
 obtain ⟨kind, n, s, null, b, texts, nums⟩:=x
 simp only at hkind
 subst hkind
 simp only at hnull
 subst hnull
 have hb3 : b.length ≤ 300:=hx.b300
 have HX:=lh hx
 have HB:=lh hw.b
 have HT:=lh hw.t
 have HN:=lh hw.n
 have HXB:=lh hw.xb
 have HXT:=lh hw.xt
 have HXN:=lh hw.xn
 have HROOM : Hid (k.length + (stepB fl ⟨11, n, s, false, b, texts, nums⟩).length ≤ cap):=lh hroom
 have HH:=lh h
 have HS:=lh hS
 have hlen : ((Lib.byteCells b).length : Int) = b.length:=by simp [Lib.byteCells]
 clear hw hroom h hx hS
 show Calls Tryz.prog 77 #[.iface T v, .agg #[.int .i64 11, .int .i64 n, .string s, .bool false, .slice A1 b.length c1, .slice A2 texts.length c2, .slice A3 nums.length c3]] w _
 have hcl : ∀ w1, Kept [w.heap.size + 1] ((w.alloc (.cells #[.int .i64 11, .int .i64 n, .string s, .bool false, .slice A1 b.length c1, .slice A2 texts.length c2, .slice A3 nums.length c3] 102)).alloc (.cells #[] 5)) w1 → ∀ j u, [Value.int .i64 11, .int .i64 n, .string s, .bool false, .slice A1 b.length c1, .slice A2 texts.length c2, .slice A3 nums.length c3][j]? = some u → w1.cell? ⟨w.heap.size, j, none⟩ = some u:=fun w1 hk1 j u hu => box_cells (T:=102) hk1 (by simp) j u hu
 have HCL:=lh hcl
 have hkw : ∀ w1, Kept [w.heap.size + 1] ((w.alloc (.cells #[.int .i64 11, .int .i64 n, .string s, .bool false, .slice A1 b.length c1, .slice A2 texts.length c2, .slice A3 nums.length c3] 102)).alloc (.cells #[] 5)) w1 → Kept [] w w1:=fun w1 hk1 => (((Kept.refl [] w).alloc _).alloc _).trans hk1 (fun x hx => .inr (by have:=List.mem_singleton.1 hx; omega))
 have HKW:=lh hkw
 have hown0 : ((w.alloc (.cells #[.int .i64 11, .int .i64 n, .string s, .bool false, .slice A1 b.length c1, .slice A2 texts.length c2, .slice A3 nums.length c3] 102)).alloc (.cells #[] 5)).ownsRow (w.heap.size + 1) 5 1 (.slice (some ⟨w.heap.size + 1, 0, none⟩) 0 0) 0 []:=own_lit1 _ _
 have HOWN0:=lh hown0
 clear hcl hkw hown0
 go_enter Tryz.func77, Tryz.ntmps77
 go_wp2_with (first
  | (at_builtin; refine wl_append rfl _ _ 34 rfl (w.heap.size + 1) 5 Tryz.underlying34 info5b rfl (by decide) (.slice (some ⟨w.heap.size + 1, 0, none⟩) 0 0) 0 [] rfl HOWN0.out A1 b.length c1 (Lib.byteCells b) rfl (HB.out.kept0 (((Kept.refl _ _).alloc _).alloc _)) (bytes_one b) (by omega) (by omega) (by rw [alloc_size, alloc_size]; omega) ?_; intro v1 w1 hown hk1 hat; have HC:=lh (HCL.out w1 hk1); have HK:=lh (HKW.out w1 hk1); rw [Nat.zero_add, List.nil_append] at hown; obtain ⟨a1, d1, rfl, hsl, hge, hlt1⟩:=own_some hown (own_grown (v:=Value.slice (some ⟨w.heap.size + 1, 0, none⟩) 0 0) rfl hat); have HSL:=lh hsl; have HO:=True.intro; have HAT:=True.intro; have hnS : a1.block ∉ S:=(fun hm => by have h9:=HS.out _ hm; omega); have HNS:=lh hnS; clear hsl hge hlt1 hnS; have hc0:=HC.out 0 _ rfl; have hc1:=HC.out 1 _ rfl; have hc2:=HC.out 2 _ rfl; have hc3:=HC.out 3 _ rfl; have hc4:=HC.out 4 _ rfl; have hc5:=HC.out 5 _ rfl; have hc6:=HC.out 6 _ rfl; clear hown hk1 hat)
  | (refine wl_invoke rfl _ _ _ _ rfl T v rfl "putBytes" rfl [.slice (some a1) b.length d1] (by simp [go_sem]) _ (E.bytes k w1 b a1 d1 HX.out.b300 HSL.out (fun _ => HNS.out) (E.keep _ _ _ HH.out HK.out) (by first | exact HROOM.out | (have:=HROOM.out; simpa [stepB, big_len] using this))) ?_; rintro e w2 ⟨rfl, ha, hk2⟩; refine ⟨_, rfl, ?_⟩; have HA:=lh ha; have HK2:=lh (HK.out.mono (T:=S) (by simp) |>.trans hk2 (fun x hx => .inl hx)); clear ha hk2))
 go_ret
 exact ⟨rfl, HA.out, HK2.out⟩
theorem put_12n {T : TypeId} {v : Value} {fl : Bool} {At : List UInt8 → World → Prop} {S : List Nat} {cap : Nat} (E : Enc T v fl At S cap) (x : St) (hx : RightB x) (hkind : x.kind = 12) (hnull : x.null = true) (A1 A2 A3 : Option Addr) (c1 c2 c3 : Nat) (w : World) (hw : StV (· ∉ S) w x A1 A2 A3) (k : List UInt8) (hS : ∀ s ∈ S, s < w.heap.size) (h : At k w) (hroom : k.length + (stepB fl x).length ≤ cap) : Calls Tryz.prog 77 #[.iface T v, .agg (stCells x A1 A2 A3 c1 c2 c3).toArray] w (PutR At S (k ++ stepB fl x) w):=by
 obtain ⟨kind, n, s, null, b, texts, nums⟩:=x
 simp only at hkind
 subst hkind
 simp only at hnull
 subst hnull
 have hb3 : b.length ≤ 300:=hx.b300
 have HX:=lh hx
 have HB:=lh hw.b
 have HT:=lh hw.t
 have HN:=lh hw.n
 have HXB:=lh hw.xb
 have HXT:=lh hw.xt
 have HXN:=lh hw.xn
 have HROOM : Hid (k.length + (stepB fl ⟨12, n, s, true, b, texts, nums⟩).length ≤ cap):=lh hroom
 have HH:=lh h
 have HS:=lh hS
 have hlen : ((Lib.byteCells b).length : Int) = b.length:=by simp [Lib.byteCells]
 clear hw hroom h hx hS
 show Calls Tryz.prog 77 #[.iface T v, .agg #[.int .i64 12, .int .i64 n, .string s, .bool true, .slice A1 b.length c1, .slice A2 texts.length c2, .slice A3 nums.length c3]] w _
 have hcl : ∀ w1, Kept [w.heap.size + 1] ((w.alloc (.cells #[.int .i64 12, .int .i64 n, .string s, .bool true, .slice A1 b.length c1, .slice A2 texts.length c2, .slice A3 nums.length c3] 102)).alloc (.cells #[] 5)) w1 → ∀ j u, [Value.int .i64 12, .int .i64 n, .string s, .bool true, .slice A1 b.length c1, .slice A2 texts.length c2, .slice A3 nums.length c3][j]? = some u → w1.cell? ⟨w.heap.size, j, none⟩ = some u:=fun w1 hk1 j u hu => box_cells (T:=102) hk1 (by simp) j u hu
 have HCL:=lh hcl
 have hkw : ∀ w1, Kept [w.heap.size + 1] ((w.alloc (.cells #[.int .i64 12, .int .i64 n, .string s, .bool true, .slice A1 b.length c1, .slice A2 texts.length c2, .slice A3 nums.length c3] 102)).alloc (.cells #[] 5)) w1 → Kept [] w w1:=fun w1 hk1 => (((Kept.refl [] w).alloc _).alloc _).trans hk1 (fun x hx => .inr (by have:=List.mem_singleton.1 hx; omega))
 have HKW:=lh hkw
 have hown0 : ((w.alloc (.cells #[.int .i64 12, .int .i64 n, .string s, .bool true, .slice A1 b.length c1, .slice A2 texts.length c2, .slice A3 nums.length c3] 102)).alloc (.cells #[] 5)).ownsRow (w.heap.size + 1) 5 1 (.slice (some ⟨w.heap.size + 1, 0, none⟩) 0 0) 0 []:=own_lit1 _ _
 have HOWN0:=lh hown0
 clear hcl hkw hown0
 go_enter Tryz.func77, Tryz.ntmps77
 go_wp2_with (first
  | (at_builtin; refine wl_append rfl _ _ 34 rfl (w.heap.size + 1) 5 Tryz.underlying34 info5b rfl (by decide) (.slice (some ⟨w.heap.size + 1, 0, none⟩) 0 0) 0 [] rfl HOWN0.out A1 b.length c1 (Lib.byteCells b) rfl (HB.out.kept0 (((Kept.refl _ _).alloc _).alloc _)) (bytes_one b) (by omega) (by omega) (by rw [alloc_size, alloc_size]; omega) ?_; intro v1 w1 hown hk1 hat; have HC:=lh (HCL.out w1 hk1); have HK:=lh (HKW.out w1 hk1); have HO:=lh hown; have HAT:=lh hat; have hc0:=HC.out 0 _ rfl; have hc1:=HC.out 1 _ rfl; have hc2:=HC.out 2 _ rfl; have hc3:=HC.out 3 _ rfl; have hc4:=HC.out 4 _ rfl; have hc5:=HC.out 5 _ rfl; have hc6:=HC.out 6 _ rfl; clear hown hk1 hat)
  | (refine wl_invoke rfl _ _ _ _ rfl T v rfl "putVarintBytes" rfl [.slice none 0 0] (by simp [go_sem]) _ (E.varnil k w1 0 (E.keep _ _ _ HH.out HK.out) (by first | exact HROOM.out | (have:=HROOM.out; simpa [stepB, big_len] using this))) ?_; rintro e w2 ⟨rfl, ha, hk2⟩; refine ⟨_, rfl, ?_⟩; have HA:=lh ha; have HK2:=lh (HK.out.mono (T:=S) (by simp) |>.trans hk2 (fun x hx => .inl hx)); clear ha hk2))
 go_ret
 exact ⟨rfl, HA.out, HK2.out⟩
theorem put_12 {T : TypeId} {v : Value} {fl : Bool} {At : List UInt8 → World → Prop} {S : List Nat} {cap : Nat} (E : Enc T v fl At S cap) (x : St) (hx : RightB x) (hkind : x.kind = 12) (hnull : x.null = false) (A1 A2 A3 : Option Addr) (c1 c2 c3 : Nat) (w : World) (hw : StV (· ∉ S) w x A1 A2 A3) (k : List UInt8) (hS : ∀ s ∈ S, s < w.heap.size) (h : At k w) (hroom : k.length + (stepB fl x).length ≤ cap) : Calls Tryz.prog 77 #[.iface T v, .agg (stCells x A1 A2 A3 c1 c2 c3).toArray] w (PutR At S (k ++ stepB fl x) w):=by
 obtain ⟨kind, n, s, null, b, texts, nums⟩:=x
 simp only at hkind
 subst hkind
 simp only at hnull
 subst hnull
 have hb3 : b.length ≤ 300:=hx.b300
 have HX:=lh hx
 have HB:=lh hw.b
 have HT:=lh hw.t
 have HN:=lh hw.n
 have HXB:=lh hw.xb
 have HXT:=lh hw.xt
 have HXN:=lh hw.xn
 have HROOM : Hid (k.length + (stepB fl ⟨12, n, s, false, b, texts, nums⟩).length ≤ cap):=lh hroom
 have HH:=lh h
 have HS:=lh hS
 have hlen : ((Lib.byteCells b).length : Int) = b.length:=by simp [Lib.byteCells]
 clear hw hroom h hx hS
 show Calls Tryz.prog 77 #[.iface T v, .agg #[.int .i64 12, .int .i64 n, .string s, .bool false, .slice A1 b.length c1, .slice A2 texts.length c2, .slice A3 nums.length c3]] w _
 have hcl : ∀ w1, Kept [w.heap.size + 1] ((w.alloc (.cells #[.int .i64 12, .int .i64 n, .string s, .bool false, .slice A1 b.length c1, .slice A2 texts.length c2, .slice A3 nums.length c3] 102)).alloc (.cells #[] 5)) w1 → ∀ j u, [Value.int .i64 12, .int .i64 n, .string s, .bool false, .slice A1 b.length c1, .slice A2 texts.length c2, .slice A3 nums.length c3][j]? = some u → w1.cell? ⟨w.heap.size, j, none⟩ = some u:=fun w1 hk1 j u hu => box_cells (T:=102) hk1 (by simp) j u hu
 have HCL:=lh hcl
 have hkw : ∀ w1, Kept [w.heap.size + 1] ((w.alloc (.cells #[.int .i64 12, .int .i64 n, .string s, .bool false, .slice A1 b.length c1, .slice A2 texts.length c2, .slice A3 nums.length c3] 102)).alloc (.cells #[] 5)) w1 → Kept [] w w1:=fun w1 hk1 => (((Kept.refl [] w).alloc _).alloc _).trans hk1 (fun x hx => .inr (by have:=List.mem_singleton.1 hx; omega))
 have HKW:=lh hkw
 have hown0 : ((w.alloc (.cells #[.int .i64 12, .int .i64 n, .string s, .bool false, .slice A1 b.length c1, .slice A2 texts.length c2, .slice A3 nums.length c3] 102)).alloc (.cells #[] 5)).ownsRow (w.heap.size + 1) 5 1 (.slice (some ⟨w.heap.size + 1, 0, none⟩) 0 0) 0 []:=own_lit1 _ _
 have HOWN0:=lh hown0
 clear hcl hkw hown0
 go_enter Tryz.func77, Tryz.ntmps77
 go_wp2_with (first
  | (at_builtin; refine wl_append rfl _ _ 34 rfl (w.heap.size + 1) 5 Tryz.underlying34 info5b rfl (by decide) (.slice (some ⟨w.heap.size + 1, 0, none⟩) 0 0) 0 [] rfl HOWN0.out A1 b.length c1 (Lib.byteCells b) rfl (HB.out.kept0 (((Kept.refl _ _).alloc _).alloc _)) (bytes_one b) (by omega) (by omega) (by rw [alloc_size, alloc_size]; omega) ?_; intro v1 w1 hown hk1 hat; have HC:=lh (HCL.out w1 hk1); have HK:=lh (HKW.out w1 hk1); rw [Nat.zero_add, List.nil_append] at hown; obtain ⟨a1, d1, rfl, hsl, hge, hlt1⟩:=own_some hown (own_grown (v:=Value.slice (some ⟨w.heap.size + 1, 0, none⟩) 0 0) rfl hat); have HSL:=lh hsl; have HO:=True.intro; have HAT:=True.intro; have hnS : a1.block ∉ S:=(fun hm => by have h9:=HS.out _ hm; omega); have HNS:=lh hnS; clear hsl hge hlt1 hnS; have hc0:=HC.out 0 _ rfl; have hc1:=HC.out 1 _ rfl; have hc2:=HC.out 2 _ rfl; have hc3:=HC.out 3 _ rfl; have hc4:=HC.out 4 _ rfl; have hc5:=HC.out 5 _ rfl; have hc6:=HC.out 6 _ rfl; clear hown hk1 hat)
  | (refine wl_invoke rfl _ _ _ _ rfl T v rfl "putVarintBytes" rfl [.slice (some a1) b.length d1] (by simp [go_sem]) _ (E.varbytes k w1 b a1 d1 HX.out.b300 HSL.out (fun _ => HNS.out) (E.keep _ _ _ HH.out HK.out) (by first | exact HROOM.out | (have:=HROOM.out; simpa [stepB, big_len] using this))) ?_; rintro e w2 ⟨rfl, ha, hk2⟩; refine ⟨_, rfl, ?_⟩; have HA:=lh ha; have HK2:=lh (HK.out.mono (T:=S) (by simp) |>.trans hk2 (fun x hx => .inl hx)); clear ha hk2))
 go_ret
 exact ⟨rfl, HA.out, HK2.out⟩
end Go.Proofs.YtmpjikihnmagoaaGreatDoor
/-
 A datum is put (77), kind by kind. Conditions: a right datum; room.
-/
namespace Go.Proofs.YtmpjikihnmagoaaGreatDoor
open Go.RowKit
theorem put_14 {T : TypeId} {v : Value} {fl : Bool} {At : List UInt8 → World → Prop} {S : List Nat} {cap : Nat} (E : Enc T v fl At S cap) (x : St) (hx : RightB x) (hkind : x.kind = 14) (A1 A2 A3 : Option Addr) (c1 c2 c3 : Nat) (w : World) (hw : StV (· ∉ S) w x A1 A2 A3) (k : List UInt8) (hS : ∀ s ∈ S, s < w.heap.size) (h : At k w) (hroom : k.length + (stepB fl x).length ≤ cap) : Calls Tryz.prog 77 #[.iface T v, .agg (stCells x A1 A2 A3 c1 c2 c3).toArray] w (PutR At S (k ++ stepB fl x) w):=by
 obtain ⟨kind, n, s, null, b, texts, nums⟩:=x
 simp only at hkind
 subst hkind
 have hnull : null = false:=by
  cases null with
  | false => rfl
  | true => exact absurd (hx.null rfl).1 (by simp)
 subst hnull
 have hb3 : b.length ≤ 300:=hx.b300
 have HX:=lh hx
 have HB:=lh hw.b
 have HT:=lh hw.t
 have HN:=lh hw.n
 have HXB:=lh hw.xb
 have HXT:=lh hw.xt
 have HXN:=lh hw.xn
 have HROOM : Hid (k.length + (stepB fl ⟨14, n, s, false, b, texts, nums⟩).length ≤ cap):=lh hroom
 have HH:=lh h
 have HS:=lh hS
 have hlen : ((Lib.byteCells b).length : Int) = b.length:=by simp [Lib.byteCells]
 clear hw hroom h hx hS
 show Calls Tryz.prog 77 #[.iface T v, .agg #[.int .i64 14, .int .i64 n, .string s, .bool false, .slice A1 b.length c1, .slice A2 texts.length c2, .slice A3 nums.length c3]] w _
 have hcl : ∀ w1, Kept [w.heap.size + 1] ((w.alloc (.cells #[.int .i64 14, .int .i64 n, .string s, .bool false, .slice A1 b.length c1, .slice A2 texts.length c2, .slice A3 nums.length c3] 102)).alloc (.cells #[] 5)) w1 → ∀ j u, [Value.int .i64 14, .int .i64 n, .string s, .bool false, .slice A1 b.length c1, .slice A2 texts.length c2, .slice A3 nums.length c3][j]? = some u → w1.cell? ⟨w.heap.size, j, none⟩ = some u:=fun w1 hk1 j u hu => box_cells (T:=102) hk1 (by simp) j u hu
 have HCL:=lh hcl
 have hkw : ∀ w1, Kept [w.heap.size + 1] ((w.alloc (.cells #[.int .i64 14, .int .i64 n, .string s, .bool false, .slice A1 b.length c1, .slice A2 texts.length c2, .slice A3 nums.length c3] 102)).alloc (.cells #[] 5)) w1 → Kept [] w w1:=fun w1 hk1 => (((Kept.refl [] w).alloc _).alloc _).trans hk1 (fun x hx => .inr (by have:=List.mem_singleton.1 hx; omega))
 have HKW:=lh hkw
 have hown0 : ((w.alloc (.cells #[.int .i64 14, .int .i64 n, .string s, .bool false, .slice A1 b.length c1, .slice A2 texts.length c2, .slice A3 nums.length c3] 102)).alloc (.cells #[] 5)).ownsRow (w.heap.size + 1) 5 1 (.slice (some ⟨w.heap.size + 1, 0, none⟩) 0 0) 0 []:=own_lit1 _ _
 have HOWN0:=lh hown0
 clear hcl hkw hown0
 go_enter Tryz.func77, Tryz.ntmps77
 go_wp2_with (first
  | (at_builtin; refine wl_append rfl _ _ 34 rfl (w.heap.size + 1) 5 Tryz.underlying34 info5b rfl (by decide) (.slice (some ⟨w.heap.size + 1, 0, none⟩) 0 0) 0 [] rfl HOWN0.out A1 b.length c1 (Lib.byteCells b) rfl (HB.out.kept0 (((Kept.refl _ _).alloc _).alloc _)) (bytes_one b) (by omega) (by omega) (by rw [alloc_size, alloc_size]; omega) ?_; intro v1 w1 hown hk1 hat; have HC:=lh (HCL.out w1 hk1); have HK:=lh (HKW.out w1 hk1); have HO:=lh hown; have HAT:=lh hat; have hc0:=HC.out 0 _ rfl; have hc1:=HC.out 1 _ rfl; have hc2:=HC.out 2 _ rfl; have hc3:=HC.out 3 _ rfl; have hc4:=HC.out 4 _ rfl; have hc5:=HC.out 5 _ rfl; have hc6:=HC.out 6 _ rfl; have hc6A:=((Kept.refl [] w1).alloc (.cells #[] 21)).cell hc6 (by simp); clear hown hk1 hat))
 have HK0:=lh (HK.out.alloc (.cells #[] 21))
 have hown6 : (w1.alloc (.cells #[] 21)).ownsRow w1.heap.size 21 1 (.slice (some ⟨w1.heap.size, 0, none⟩) 0 0) 0 []:=World.ownsRow_lit (base:=w1.heap.size) (e:=21) (size:=1) w1 #[] 0 (Nat.le_refl _) (by decide) rfl
 obtain ⟨n3, hn3⟩ : ∃ n3, nums.length = n3:=⟨_, rfl⟩
 have hn10 : n3 ≤ 10:=by rw [← hn3]; exact HX.out.n10
 rw [hn3] at HN
 have hz : w.heap.size ≤ w1.heap.size:=HK.out.size
 obtain ⟨z6, hz6⟩ : ∃ z6, w1.heap.size = z6:=⟨_, rfl⟩
 rw [hz6] at hown6 hz
 obtain ⟨W, hW⟩ : ∃ W, w1.alloc (.cells #[] 21) = W:=⟨_, rfl⟩
 rw [hW] at HK0 hown6
 have HOWN6:=lh hown6
 have HN3:=lh hn3
 simp only [hW, hz6, hn3]
 have hc6W : W.cell? ⟨w.heap.size, 6, none⟩ = some (.slice A3 n3 c3):=by
  rw [← hn3, ← hW]
  exact ((Kept.refl [] w1).alloc _).cell hc6 (by simp)
 clear hown6 hn3 hW hz6 hc0 hc1 hc2 hc3 hc4 hc5 hc6 hc6A HC HO HAT HB HT
 go_loopw [6, 118] (fun tv iv wr => ∃ j : Nat, j ≤ n3 ∧ iv = .int .i64 j ∧ wr.ownsRow z6 21 1 tv j ((nums.take j).map (Value.int .i32)) ∧ tv.ownBlock.isSome = true ∧ Kept [] w wr) (fun _ iv _ => n3 - (intOf iv).toNat)
 case atStart => exact ⟨0, Nat.zero_le _, rfl, by simpa using HOWN6.out, rfl, HK0.out⟩
 case round =>
  obtain ⟨j, hj, rfl, hor, hos, hkr⟩:=hrel
  have HOR:=lh hor
  have HOS:=lh hos
  have HKR:=lh hkr
  clear hor hos hkr
  by_cases hlt : j < n3
  ·obtain ⟨b3, off3, hAe, hcc⟩:=HN.out.2.2 (by omega)
   obtain ⟨y, hy⟩ : ∃ y, nums[j]? = some y:=⟨_, List.getElem?_eq_getElem (by rw [HN3.out]; exact hlt)⟩
   subst hAe
   have hcell : wr.cell? ⟨b3, off3 + j, none⟩ = some (.int .i64 y):=HKR.out.cell (hcc j _ (by simp [hy])) (by simp)
   have hcv : IntKind.i32.wrap y = y:=IntWalk.i32_in _ (by have:=HX.out.n32 rfl y (List.mem_of_getElem? hy); simp only [fitsB] at this; omega)
   have HTK:=lh (take_one hy)
   have hzr : z6 ≤ wr.heap.size:=by
    obtain ⟨a0, d0, _, _, h8, h9⟩:=own_some HOR.out HOS.out
    omega
   clear hcc hy
   go_wp2_with (at_builtin; refine wl_append rfl _ _ 220 rfl z6 21 Tryz.underlying220 info21b rfl (by decide) u6 j _ rfl (own_kept0 HOR.out ((Kept.refl _ _).alloc _)) (some ⟨wr.heap.size, 0, none⟩) 1 1 [.int .i32 y] rfl (one_sl2 _ _ _ rfl) (by simp [Value.oneCell']) (by omega) (by omega) (by rw [alloc_size]; omega) ?_; intro v' w4 hown4 hk4 hat4; have HOWN4:=lh hown4; have HK4:=lh ((HKR.out.alloc (.cells #[.int .i32 y] 21)).trans hk4 (fun x hx => .inr (by have h9:=own_ge HOR.out x (by simpa using hx); omega))); have HAT4:=lh (own_grown HOS.out hat4); clear hown4 hk4 hat4)
   go_roundw
   case rel =>
    refine ⟨j + 1, by omega, by go_num, ?_, HAT4.out, HK4.out⟩
    rw [HTK.out, List.map_append]
    exact HOWN4.out
   case measure => (simp [intOf]) <;> omega
  ·have e : nums.take j = nums:=List.take_of_length_le (by rw [HN3.out]; omega)
   have ej : j = n3:=by omega
   subst ej
   rw [e] at HOR
   obtain ⟨a6, d6, hv6, hsl6, hge6, hlt6⟩:=own_some HOR.out HOS.out
   have hlen3:=HN3.out
   subst hv6
   have HSL6 : Hid (SlIs wr 1 (some a6) nums.length (nums.map (Value.int .i32))):=lh (by rw [hlen3]; exact hsl6)
   have HNS6 : Hid (a6.block ∉ S):=lh (fun hm => by have h9:=HS.out _ hm; omega)
   clear e hsl6 hge6 hlt6
   go_wp2_with (refine wl_invoke rfl _ _ _ _ rfl T v rfl "putInt32Array" rfl [.slice (some a6) j d6] (by simp [go_sem]) _ (hlen3 ▸ E.i32s k wr nums (some a6) d6 HX.out.n10 (by simp) HSL6.out (fun a e _ => by cases e; exact HNS6.out) (E.keep _ _ _ HH.out HKR.out) (by first | exact HROOM.out | (have:=HROOM.out; simpa [stepB, big_len] using this))) ?_; rintro e w2 ⟨rfl, ha, hk2⟩; refine ⟨_, rfl, ?_⟩; have HA:=lh ha; have HK2:=lh (HKR.out.mono (T:=S) (by simp) |>.trans hk2 (fun x hx => .inl hx)); clear ha hk2)
   go_ret
   refine ⟨rfl, ?_, HK2.out⟩
   have h8:=HA.out
   rw [← hlen3] at h8
   exact h8
end Go.Proofs.YtmpjikihnmagoaaGreatDoor
/-
 A datum is put (77), kind by kind. Conditions: a right datum; room.
-/
namespace Go.Proofs.YtmpjikihnmagoaaGreatDoor
open Go.RowKit
def put_6F (T : TypeId) (v0 : Value) (z : Nat) (n : Int) (m : Nat) (ix : Nat) (v : Value) (_ : World) : Prop :=
 match ix with
 | 0 => v = .iface T v0
 | 1 => v = .pointer (some ⟨z, 1, none⟩)
 | 2 => v = .int .i64 n
 | 3 => v = .int .u64 (m : Nat)
 | 4 => v = .float .f64 m
 | 5 => v = .func (.method "pub-kestrel/pub/sarama.putFloat64") #[.iface T v0] #[]
 | 6 => v = .func (.method "pub-kestrel/pub/sarama.putFloat64") #[.iface T v0] #[]
 | 7 => v = .iface T v0
 | _ => True
theorem put_6F_stable {T v0 z n m} : ∀ ix v w w', put_6F T v0 z n m ix v w → Kept [] w w' → put_6F T v0 z n m ix v w':=by
 intro ix v w w' h k
 unfold put_6F at h ⊢
 split at h <;> (first | (exact h))
theorem put_6 {T : TypeId} {v : Value} {fl : Bool} {At : List UInt8 → World → Prop} {S : List Nat} {cap : Nat} (E : Enc T v fl At S cap) (x : St) (hx : RightB x) (hkind : x.kind = 6) (A1 A2 A3 : Option Addr) (c1 c2 c3 : Nat) (w : World) (hw : StV (· ∉ S) w x A1 A2 A3) (k : List UInt8) (hS : ∀ s ∈ S, s < w.heap.size) (h : At k w) (hroom : k.length + (stepB fl x).length ≤ cap) : Calls Tryz.prog 77 #[.iface T v, .agg (stCells x A1 A2 A3 c1 c2 c3).toArray] w (PutR At S (k ++ stepB fl x) w):=by
 obtain ⟨kind, n, s, null, b, texts, nums⟩:=x
 simp only at hkind
 subst hkind
 have hnull : null = false:=by
  cases null with
  | false => rfl
  | true => exact absurd (hx.null rfl).1 (by simp)
 subst hnull
 have hb3 : b.length ≤ 300:=hx.b300
 have HX:=lh hx
 have HB:=lh hw.b
 have HT:=lh hw.t
 have HN:=lh hw.n
 have HXB:=lh hw.xb
 have HXT:=lh hw.xt
 have HXN:=lh hw.xn
 have HROOM : Hid (k.length + (stepB fl ⟨6, n, s, false, b, texts, nums⟩).length ≤ cap):=lh hroom
 have HH:=lh h
 have HS:=lh hS
 have hlen : ((Lib.byteCells b).length : Int) = b.length:=by simp [Lib.byteCells]
 obtain ⟨m, hm⟩ : ∃ m : Nat, u64 n = m:=⟨_, rfl⟩
 have hcv : IntKind.u64.wrap n = (m : Int):=by
  rw [IntKind.wrap_u64, ← hm]
  unfold u64
  omega
 have HM:=lh hm
 clear hm
 clear hw hroom h hx hS
 show Calls Tryz.prog 77 #[.iface T v, .agg #[.int .i64 6, .int .i64 n, .string s, .bool false, .slice A1 b.length c1, .slice A2 texts.length c2, .slice A3 nums.length c3]] w _
 have hcl : ∀ w1, Kept [w.heap.size + 1] ((w.alloc (.cells #[.int .i64 6, .int .i64 n, .string s, .bool false, .slice A1 b.length c1, .slice A2 texts.length c2, .slice A3 nums.length c3] 102)).alloc (.cells #[] 5)) w1 → ∀ j u, [Value.int .i64 6, .int .i64 n, .string s, .bool false, .slice A1 b.length c1, .slice A2 texts.length c2, .slice A3 nums.length c3][j]? = some u → w1.cell? ⟨w.heap.size, j, none⟩ = some u:=fun w1 hk1 j u hu => box_cells (T:=102) hk1 (by simp) j u hu
 have HCL:=lh hcl
 have hkw : ∀ w1, Kept [w.heap.size + 1] ((w.alloc (.cells #[.int .i64 6, .int .i64 n, .string s, .bool false, .slice A1 b.length c1, .slice A2 texts.length c2, .slice A3 nums.length c3] 102)).alloc (.cells #[] 5)) w1 → Kept [] w w1:=fun w1 hk1 => (((Kept.refl [] w).alloc _).alloc _).trans hk1 (fun x hx => .inr (by have:=List.mem_singleton.1 hx; omega))
 have HKW:=lh hkw
 have hown0 : ((w.alloc (.cells #[.int .i64 6, .int .i64 n, .string s, .bool false, .slice A1 b.length c1, .slice A2 texts.length c2, .slice A3 nums.length c3] 102)).alloc (.cells #[] 5)).ownsRow (w.heap.size + 1) 5 1 (.slice (some ⟨w.heap.size + 1, 0, none⟩) 0 0) 0 []:=own_lit1 _ _
 have HOWN0:=lh hown0
 clear hcl hkw hown0
 go_enter Tryz.func77, Tryz.ntmps77
 go_wp2_with (first
  | (at_builtin; refine wl_append rfl _ _ 34 rfl (w.heap.size + 1) 5 Tryz.underlying34 info5b rfl (by decide) (.slice (some ⟨w.heap.size + 1, 0, none⟩) 0 0) 0 [] rfl HOWN0.out A1 b.length c1 (Lib.byteCells b) rfl (HB.out.kept0 (((Kept.refl _ _).alloc _).alloc _)) (bytes_one b) (by omega) (by omega) (by rw [alloc_size, alloc_size]; omega) ?_; intro v1 w1 hown hk1 hat; have HC:=lh (HCL.out w1 hk1); have HK:=lh (HKW.out w1 hk1); have HO:=lh hown; have HAT:=lh hat; have hc0:=HC.out 0 _ rfl; have hc1:=HC.out 1 _ rfl; have hc2:=HC.out 2 _ rfl; have hc3:=HC.out 3 _ rfl; have hc4:=HC.out 4 _ rfl; have hc5:=HC.out 5 _ rfl; have hc6:=HC.out 6 _ rfl; clear hown hk1 hat))
 have HNA : Hid (∀ W, Kept [] w1 W → (nilAhead 483 T v "pub-kestrel/pub/sarama.putFloat64").run Tryz.prog W = .ok (some false) W):=lh fun W hk => by
  obtain ⟨_, _, _, _, h9, _⟩:=E.float k W n (E.keep _ _ _ HH.out (HK.out.trans0 hk)) (by first | exact HROOM.out | (have:=HROOM.out; simpa [stepB, big_len] using this))
  exact h9
 obtain ⟨z, hz⟩ : ∃ z, w.heap.size = z:=⟨_, rfl⟩
 rw [hz] at hc1 ⊢
 have HC1:=lh hc1
 clear hc0 hc1 hc2 hc3 hc4 hc5 hc6 HC HKW HCL HOWN0 hz
 refine wp_region_facts' 8 (Kept []) (put_6F T v z n m) mixed (by kernel_rfl) (Kept.refl _ _).drew (fun _ _ _ h k => h.trans k (fun x hx => .inl hx)) put_6F_stable ?_ ?_
 ·refine ⟨?_, ?_, ?_, ?_, ?_, ?_, ?_, ?_, trivial⟩
  all_goals go_light
  all_goals intro a W hR hs hd
  all_goals have p0 : a.tmps[0]? = some (.iface T v):=hs.2.2 0 (by decide)
  all_goals have p3 : a.tmps[3]? = some (.pointer (some ⟨z, 0, none⟩)):=hs.2.2 3 (by decide)
  all_goals have hRr : Kept [] W W:=Kept.refl _ _
  all_goals have hc1 : W.cell? ⟨z, 1, none⟩ = _:=hR.cell HC1.out (by simp)
  all_goals have hna:=HNA.out W hR
  ·refine ov W (.iface T v) ?_ (.mk hRr rfl rfl)
   simp [go_sem, p0]
  ·refine ov W (.pointer (some ⟨z, 1, none⟩)) ?_ (.mk hRr rfl rfl)
   simp [go_sem, p3]
  ·have q1 : _ = _:=hd.1 rfl
   refine ov W (.int .i64 n) ?_ (.mk hRr rfl rfl)
   simp [go_sem, q1, hc1]
  ·have q2 : _ = _:=hd.1 rfl
   refine ov W (.int .u64 (m : Nat)) ?_ (.mk hRr rfl rfl)
   simp [go_sem, q2, hcv]
  ·have q3 : _ = _:=hd.1 rfl
   refine ov W (.float .f64 m) ?_ (.mk hRr rfl rfl)
   simp [go_sem, q3, frombits90]
  ·have q0 : _ = _:=hd.1 rfl
   refine ov W (.func (.method "pub-kestrel/pub/sarama.putFloat64") #[.iface T v] #[]) ?_ (.mk hRr rfl rfl)
   simp [go_sem, q0]
  ·have q5 : _ = _:=hd.1 rfl
   refine ov W (.func (.method "pub-kestrel/pub/sarama.putFloat64") #[.iface T v] #[]) ?_ (.mk hRr rfl rfl)
   simp [go_sem, q5, hna]
  ·have q0 : _ = _:=hd.1 rfl
   have q5 : _ = _:=hd.2.1 rfl
   have q6 : _ = _:=hd.2.2.1 rfl
   refine ov W (.iface T v) ?_ (.mk hRr rfl rfl)
   simp [go_sem, q0]
 ·intro f W hR hf
  obtain ⟨f0, f1, f2, f3, f4, f5, f6, f7, -⟩:=hf
  change f 59 = _ at f0
  change f 60 = _ at f1
  change f 61 = _ at f2
  change f 62 = _ at f3
  change f 63 = _ at f4
  change f 64 = _ at f5
  change f 65 = _ at f6
  change f 66 = _ at f7
  simp only [headDsts, List.take_succ_cons, List.take_zero, List.filterMap_cons, List.filterMap_nil, setAll, f0, f1, f2, f3, f4, f5, f6, f7, List.setIfInBounds_toArray, List.set_cons_succ, List.set_cons_zero, List.drop_succ_cons, List.drop_zero]
  clear f0 f1 f2 f3 f4 f5 f6 f7 f
  have HR:=lh hR
  clear hR
  go_wp2_with (refine wl_invoke rfl _ _ _ _ rfl T v rfl "putFloat64" rfl [.float .f64 m] (by simp [go_sem]) _ (HM.out ▸ E.float k _ n (E.keep _ _ _ HH.out (HK.out.trans0 HR.out)) (by first | exact HROOM.out | (have:=HROOM.out; simpa [stepB, big_len] using this))) ?_; rintro e w2 ⟨rfl, ha, hk2⟩; refine ⟨_, rfl, ?_⟩; have HA:=lh ha; have HK2:=lh ((HK.out.trans0 HR.out).mono (T:=S) (by simp) |>.trans hk2 (fun x hx => .inl hx)); clear ha hk2)
  go_ret
  exact ⟨rfl, HA.out, HK2.out⟩
end Go.Proofs.YtmpjikihnmagoaaGreatDoor
/-
 A datum is put, whatever its kind (77); rows of data in memory. Conditions: a right datum; room.
-/
namespace Go.Proofs.YtmpjikihnmagoaaGreatDoor
open Go.RowKit
theorem put_any {T : TypeId} {v : Value} {fl : Bool} {At : List UInt8 → World → Prop} {S : List Nat} {cap : Nat} (E : Enc T v fl At S cap) (x : St) (hx : RightB x) (A1 A2 A3 : Option Addr) (c1 c2 c3 : Nat) (w : World) (hw : StV (· ∉ S) w x A1 A2 A3) (k : List UInt8) (hS : ∀ s ∈ S, s < w.heap.size) (h : At k w) (hroom : k.length + (stepB fl x).length ≤ cap) : Calls Tryz.prog 77 #[.iface T v, .agg (stCells x A1 A2 A3 c1 c2 c3).toArray] w (PutR At S (k ++ stepB fl x) w):=by
 have hk:=hx.kind
 have h17 : x.kind = 0 ∨ x.kind = 1 ∨ x.kind = 2 ∨ x.kind = 3 ∨ x.kind = 4 ∨ x.kind = 5 ∨ x.kind = 6 ∨ x.kind = 7 ∨ x.kind = 8 ∨ x.kind = 9 ∨ x.kind = 10 ∨ x.kind = 11 ∨ x.kind = 12 ∨ x.kind = 13 ∨ x.kind = 14 ∨ x.kind = 15 ∨ x.kind = 16:=by omega
 rcases h17 with e | e | e | e | e | e | e | e | e | e | e | e | e | e | e | e | e
 ·exact put_0 E x hx e A1 A2 A3 c1 c2 c3 w hw k hS h hroom
 ·exact put_1 E x hx e A1 A2 A3 c1 c2 c3 w hw k hS h hroom
 ·exact put_2 E x hx e A1 A2 A3 c1 c2 c3 w hw k hS h hroom
 ·exact put_3 E x hx e A1 A2 A3 c1 c2 c3 w hw k hS h hroom
 ·exact put_4 E x hx e A1 A2 A3 c1 c2 c3 w hw k hS h hroom
 ·exact put_5 E x hx e A1 A2 A3 c1 c2 c3 w hw k hS h hroom
 ·exact put_6 E x hx e A1 A2 A3 c1 c2 c3 w hw k hS h hroom
 ·rcases hx.bool e with e2 | e2
  ·exact put_7_0 E x hx e e2 A1 A2 A3 c1 c2 c3 w hw k hS h hroom
  ·exact put_7_1 E x hx e e2 A1 A2 A3 c1 c2 c3 w hw k hS h hroom
 ·exact put_8 E x hx e A1 A2 A3 c1 c2 c3 w hw k hS h hroom
 ·exact put_9 E x hx e A1 A2 A3 c1 c2 c3 w hw k hS h hroom
 ·cases e2 : x.null
  ·exact put_10 E x hx e e2 A1 A2 A3 c1 c2 c3 w hw k hS h hroom
  ·exact put_10n E x hx e e2 A1 A2 A3 c1 c2 c3 w hw k hS h hroom
 ·cases e2 : x.null
  ·exact put_11 E x hx e e2 A1 A2 A3 c1 c2 c3 w hw k hS h hroom
  ·exact put_11n E x hx e e2 A1 A2 A3 c1 c2 c3 w hw k hS h hroom
 ·cases e2 : x.null
  ·exact put_12 E x hx e e2 A1 A2 A3 c1 c2 c3 w hw k hS h hroom
  ·exact put_12n E x hx e e2 A1 A2 A3 c1 c2 c3 w hw k hS h hroom
 ·exact put_13 E x hx e A1 A2 A3 c1 c2 c3 w hw k hS h hroom
 ·exact put_14 E x hx e A1 A2 A3 c1 c2 c3 w hw k hS h hroom
 ·exact put_15 E x hx e A1 A2 A3 c1 c2 c3 w hw k hS h hroom
 ·exact put_16 E x hx e A1 A2 A3 c1 c2 c3 w hw k hS h hroom
theorem flat_get {α β : Type} (f : α → List β) (s : Nat) (hf : ∀ x, (f x).length = s) (hs : 0 < s) : ∀ (l : List α) (i j : Nat), j < s → (l.flatMap f)[i * s + j]? = (l[i]?).bind (fun x => (f x)[j]?)
 | [], i, j, hj => by simp
 | x :: l, 0, j, hj => by
  rw [List.flatMap_cons, Nat.zero_mul, Nat.zero_add, List.getElem?_append_left (by rw [hf]; exact hj)]
  simp
 | x :: l, i + 1, j, hj => by
  have:=flat_get f s hf hs l i j hj
  rw [List.flatMap_cons, List.getElem?_append_right (by rw [hf, Nat.add_mul]; omega), hf, show (i + 1) * s + j - s = i * s + j by rw [Nat.add_mul]; omega, this]
  simp
theorem flat_len {α β : Type} (f : α → List β) (s : Nat) (hf : ∀ x, (f x).length = s) : ∀ (l : List α), (l.flatMap f).length = l.length * s
 | [] => by simp
 | x :: l => by rw [List.flatMap_cons, List.length_append, hf, flat_len f s hf l, List.length_cons, Nat.add_mul]; omega
/-- A datum with where its parts lie. -/
structure Sq where
 /-- the datum -/
 x : St
 /-- where its bytes lie -/
 a1 : Option Addr
 /-- where its texts lie -/
 a2 : Option Addr
 /-- where its numbers lie -/
 a3 : Option Addr
 /-- capacities -/
 c1 : Nat
 /-- capacities -/
 c2 : Nat
 /-- capacities -/
 c3 : Nat
/-- Its seven cells. -/
def Sq.cells (s : Sq) : List Value:=stCells s.x s.a1 s.a2 s.a3 s.c1 s.c2 s.c3
theorem Sq.len (s : Sq) : s.cells.length = 7:=rfl
/-- Data in a row. -/
def StsAt (X : Nat → Prop) (w : World) (A : Option Addr) (l : List St) : Prop :=
 ∃ q : List Sq, q.map Sq.x = l ∧ SlIs w 7 A l.length (q.flatMap Sq.cells) ∧ (∀ a, A = some a → X a.block) ∧ ∀ s ∈ q, StV X w s.x s.a1 s.a2 s.a3
theorem StsAt.kept {X : Nat → Prop} {S : List Nat} {w w' : World} {A : Option Addr} {l : List St} (h : StsAt X w A l) (k : Kept S w w') (hX : ∀ b, X b → b ∉ S) : StsAt X w' A l:=by
 obtain ⟨q, h1, h2, h3, h4⟩:=h
 exact ⟨q, h1, h2.kept k fun a e => hX _ (h3 a e), h3, fun s hs => (h4 s hs).kept k hX⟩
theorem StsAt.at {X : Nat → Prop} {w : World} {A : Option Addr} {l : List St} (h : StsAt X w A l) {i : Nat} {x : St} (hi : l[i]? = some x) : ∃ b off A1 A2 A3 c1 c2 c3, A = some ⟨b, off, none⟩ ∧ (∀ j v, (stCells x A1 A2 A3 c1 c2 c3)[j]? = some v → w.cell? ⟨b, off + i * 7 + j, none⟩ = some v) ∧ StV X w x A1 A2 A3:=by
 obtain ⟨q, h1, h2, h3, h4⟩:=h
 have hlt:=(List.getElem?_eq_some_iff.1 hi).1
 obtain ⟨b, off, hA, hc⟩:=h2.2.2 (by omega)
 rw [← h1, List.getElem?_map] at hi
 obtain ⟨s, hs, rfl⟩:=Option.map_eq_some_iff.1 hi
 refine ⟨b, off, s.a1, s.a2, s.a3, s.c1, s.c2, s.c3, hA, fun j v hv => ?_, h4 s (List.mem_of_getElem? hs)⟩
 have hj : j < 7:=by
  have:=(List.getElem?_eq_some_iff.1 hv).1
  exact this
 rw [Nat.add_assoc]
 refine hc _ _ ?_
 rw [flat_get Sq.cells 7 Sq.len (by decide) q i j hj, hs]
 exact hv
theorem StV.mono {X Y : Nat → Prop} {w : World} {x : St} {A1 A2 A3 : Option Addr} (h : StV X w x A1 A2 A3) (hX : ∀ b, X b → Y b) : StV Y w x A1 A2 A3:=⟨h.b, h.t, h.n, fun a e h0 => hX _ (h.xb a e h0), fun a e h0 => hX _ (h.xt a e h0), fun a e h0 => hX _ (h.xn a e h0)⟩
theorem StsAt.mono {X Y : Nat → Prop} {w : World} {A : Option Addr} {l : List St} (h : StsAt X w A l) (hX : ∀ b, X b → Y b) : StsAt Y w A l:=by
 obtain ⟨q, h1, h2, h3, h4⟩:=h
 exact ⟨q, h1, h2, fun a e => hX _ (h3 a e), fun s hs => (h4 s hs).mono hX⟩
theorem st_ones (x : St) (A1 A2 A3 : Option Addr) (c1 c2 c3 : Nat) : (stCells x A1 A2 A3 c1 c2 c3).toArray.all (·.oneCell') = true:=by
 simp [stCells, Value.oneCell']
theorem new_cells (w : World) (cs : List Value) (T : TypeId) (j : Nat) (v : Value) (h : cs[j]? = some v) : (w.alloc (.cells cs.toArray T)).cell? ⟨w.heap.size, 0 + j, none⟩ = some v:=by
 have h1:=heap_alloc_new w (.cells cs.toArray T)
 simp only [World.cell?, h1, Nat.zero_add]
 simpa using h
theorem mk_row34 (n : Nat) (hn : n ≤ 1000000) : ∃ cs : Array Value, cs.size = n ∧ ∀ W : World, (Instr.makeSlice 34 (.int .i64 n) (.int .i64 n)).run Tryz.prog W = .ok (.slice (some ⟨W.heap.size, 0, none⟩) n n) (W.alloc (.cells cs 5 (0, 0))):=by
 have k1 : (Tryz.prog.info? 5).map (fun i => (i.size, i.bytes)) = some (1, 1):=by kernel_rfl
 have k2 : (Tryz.prog.info? 5).bind (fun i => i.zero) = some (.int .u8 0):=by kernel_rfl
 obtain ⟨i, h1⟩ : ∃ i, Tryz.prog.info? 5 = some i:=by
  cases hq : Tryz.prog.info? 5 with
  | none => rw [hq] at k1; cases k1
  | some i => exact ⟨i, rfl⟩
 rw [h1] at k1 k2
 have h2 : i.zero = some (.int .u8 0):=k2
 have h34 : (i.size, i.bytes) = (1, 1):=Option.some.inj k1
 have h3 : i.size = 1:=congrArg Prod.fst h34
 have h4 : i.bytes = 1:=congrArg Prod.snd h34
 refine ⟨madeCells (Value.cells (.int .u8 0)) n, by rw [size_madeCells], fun W => ?_⟩
 have hr:=run_makeSlice (P:=Tryz.prog) W 34 5 i _ Tryz.underlying34 h1 h2 .i64 .i64 n n (by omega) (by omega) (by rw [h3]; simp; omega) (by rw [h4]; omega) (by omega)
 rw [h3] at hr
 simp only [Int.toNat_natCast, Nat.mul_one] at hr
 exact hr
theorem lenB_le (fl : Bool) (k : Int) (n : Nat) : (lenB fl k n).length ≤ 10 + n:=by
 unfold lenB
 split
 ·have:=Lib.uvarint_length64 (x:=u64 (k + 1)) (u64_lt _)
  omega
 ·rw [big_len]; omega
theorem textB_le (fl : Bool) (s : ByteArray) : (textB fl s).length ≤ 12 + s.size:=by
 have h:=lenB_le fl s.size 2
 unfold textB
 rw [List.length_append]
 have : s.data.toList.length = s.size:=rfl
 omega
theorem flat_most {α β : Type} (f : α → List β) (c : Nat) : ∀ l : List α, (∀ x ∈ l, (f x).length ≤ c) → (l.flatMap f).length ≤ l.length * c
 | [], _ => by simp
 | x :: l, h => by
  have h1:=h x (by simp)
  have h2:=flat_most f c l fun y hy => h y (by simp [hy])
  rw [List.flatMap_cons, List.length_append, List.length_cons, Nat.add_mul]
  omega
theorem flat_big_le (m : Nat) (l : List Int) : (l.flatMap (big m)).length ≤ l.length * m:=flat_most _ _ _ fun x _ => by rw [big_len]; exact Nat.le_refl _
/-- A right datum's form is short. -/
theorem stepB_le (fl : Bool) {x : St} (hx : RightB x) : (stepB fl x).length ≤ 1000:=by
 have hk:=hx.kind
 have h17 : x.kind = 0 ∨ x.kind = 1 ∨ x.kind = 2 ∨ x.kind = 3 ∨ x.kind = 4 ∨ x.kind = 5 ∨ x.kind = 6 ∨ x.kind = 7 ∨ x.kind = 8 ∨ x.kind = 9 ∨ x.kind = 10 ∨ x.kind = 11 ∨ x.kind = 12 ∨ x.kind = 13 ∨ x.kind = 14 ∨ x.kind = 15 ∨ x.kind = 16:=by omega
 have hu : ∀ y : Nat, y < 18446744073709551616 → (Lib.uvarint y).length ≤ 10:=fun y hy => Lib.uvarint_length64 hy
 have hz : ∀ y : Int, -9223372036854775808 ≤ y → y ≤ 9223372036854775807 → (Lib.uvarint (Lib.zigzag y)).length ≤ 10:=fun y h0 h1 => hu _ (by unfold Lib.zigzag; split <;> omega)
 have hl2:=lenB_le fl
 have ht:=textB_le fl x.s
 have htt:=flat_most (textB fl) 72 x.texts fun s hs => by have h1:=textB_le fl s; have h2:=hx.t60 s hs; omega
 have h10:=hx.t10
 have hn10:=hx.n10
 have hb:=hx.b300
 have hs:=hx.s200
 have hf4:=flat_big_le 4 x.nums
 have hf8:=flat_big_le 8 x.nums
 have h64:=hx.i64
 have hun:=hu (u64 x.n) (u64_lt _)
 have hzn:=hz x.n h64.1 h64.2
 have hz1:=hz (-1) (by omega) (by omega)
 have hzb:=hz (x.b.length : Int) (by omega) (by omega)
 have hm1:=hl2 (-1) 2
 have hm2:=hl2 (-1) 4
 have hlb:=hl2 (x.b.length : Int) 4
 have hlt:=hl2 (x.texts.length : Int) 4
 have hln:=hl2 (x.nums.length : Int) 4
 have hl8:=hl2 x.n 4
 rcases h17 with e | e | e | e | e | e | e | e | e | e | e | e | e | e | e | e | e <;> simp only [stepB, e]
 all_goals (try split)
 all_goals (try simp only [List.length_append, big_len])
 all_goals omega
theorem stepsB_le (fl : Bool) : ∀ l : List St, (∀ x ∈ l, RightB x) → (stepsB fl l).length ≤ l.length * 1000:=fun _l h => flat_most _ _ _ fun x hx => stepB_le fl (h x hx)
theorem stepsB_take (fl : Bool) {l : List St} {i : Nat} {x : St} (h : l[i]? = some x) : stepsB fl (l.take (i + 1)) = stepsB fl (l.take i) ++ stepB fl x:=by
 rw [take_one h, stepsB_append]
 simp [stepsB]
theorem stepsB_take_le (fl : Bool) {l : List St} {i : Nat} {x : St} (h : l[i]? = some x) : (stepsB fl (l.take i)).length + (stepB fl x).length ≤ (stepsB fl l).length:=by
 have h1 : stepsB fl l = stepsB fl (l.take (i + 1)) ++ stepsB fl (l.drop (i + 1)):=by rw [← stepsB_append, List.take_append_drop]
 rw [h1, stepsB_take fl h, List.length_append, List.length_append]
 omega
end Go.Proofs.YtmpjikihnmagoaaGreatDoor
