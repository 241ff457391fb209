/-
  A datum is read (76), kind by kind. Conditions: the bytes at hand begin with its form.
-/
import Derived.Test.YtmpjikihnmagoaaGreatDoorZT27
set_option maxRecDepth 100000
set_option maxHeartbeats 3200000
namespace Go.Proofs.YtmpjikihnmagoaaGreatDoor
open Go.RowKit
theorem get_0 {T : TypeId} {v : Value} {fl : Bool} {At : List UInt8 → List UInt8 → World → Prop} {S : List Nat} {raw : Nat} {own : Nat → Prop} (D : Dec T v fl At S raw own) (n : Int) (hn : fitsB 8 n) (A1 A2 A3 : Option Addr) (c1 c2 c3 : Nat) (w : World) (hown : ∀ g, own g → g < w.heap.size) (pre rest : List UInt8) (h : At pre (stepB fl ⟨0, n, ByteArray.empty, false, [], [], []⟩ ++ rest) w) : Calls Tryz.prog 76 #[.iface T v, .agg (stCells (pat ⟨0, n, ByteArray.empty, false, [], [], []⟩) A1 A2 A3 c1 c2 c3).toArray] w (GetR At S raw (got ⟨0, n, ByteArray.empty, false, [], [], []⟩) (pre ++ stepB fl ⟨0, n, ByteArray.empty, false, [], [], []⟩) rest w):=by
 have hng : ¬ own (w.heap.size + 1):=fun hm => by have:=hown _ hm; omega
 have hns : (w.heap.size + 1) ∉ S:=fun hm => hng (D.sub _ hm)
 have hraw : raw < w.heap.size:=hown _ D.rawo
 have HNG:=lh hng
 have HNS:=lh hns
 have HRAW:=lh hraw
 have HH:=lh h
 have hcv : wrap64 n = n:=IntWalk.wrap64_in _ (by simp only [fitsB] at hn; omega)
 clear h hown hng hns hraw
 show Calls Tryz.prog 76 #[.iface T v, .agg #[.int .i64 0, .int .i64 (0 : Nat), .string ByteArray.empty, .bool false, .slice A1 0 c1, .slice A2 0 c2, .slice A3 0 c3]] w _
 go_enter Tryz.func76, Tryz.ntmps76
 go_wp2_with (first
  | (refine wl_invoke rfl _ _ _ _ rfl T v rfl "getInt8" rfl [] (by simp [go_sem]) _ (D.int8 pre rest _ n hn (D.keep _ _ _ _ HH.out (((Kept.refl [] w).alloc _).alloc _))) ?_; rintro e w2 ⟨rfl, ha2, hk2⟩; refine ⟨_, rfl, ?_⟩; have HG2:=lh ((gx_new w _ [.int .i64 0, .int .i64 0, .string ByteArray.empty, .bool false, .slice none 0 0, .slice none 0 0, .slice none 0 0]).keep hk2 HNS.out); have HA2:=lh ha2; have HK2:=lh (((((Kept.refl S w).alloc _).alloc _)).trans hk2 (fun x hx => .inl hx)); have hc1:=HG2.out.cell 1 _ rfl; have hf1:=HG2.out.frozen 1; have HGF:=lh (HG2.out.set 1 (.int .i64 n)); have HKG:=lh ((Kept.refl [w.heap.size + 1] w2).setCell (p:=⟨w.heap.size + 1, 1, none⟩) (.inl (by simp)) (.int .i64 n)); have HKS:=lh (HK2.out.setCell (p:=⟨w.heap.size + 1, 1, none⟩) (.inr (Nat.le_succ _)) (.int .i64 n)); clear ha2 hk2)
  | (refine wl_load_struct rfl 102 _ rfl Tryz.underlying102 rfl rfl (w.heap.size + 1) 0 rfl [.int .i64 0, .int .i64 n, .string ByteArray.empty, .bool false, .slice none 0 0, .slice none 0 0, .slice none 0 0] rfl HGF.out.cells ?_)
  | (refine wl_store_struct rfl 102 _ _ rfl (cs:=#[.int .i64 0, .int .i64 n, .string ByteArray.empty, .bool false, .slice none 0 0, .slice none 0 0, .slice none 0 0]) rfl (w.heap.size + 1) rfl rfl 102 _ HGF.out rfl (by simp [Value.oneCell']) ?_))
 refine bodyPost_ret (results_cell_agg rfl _ _ rfl rfl (GX.row (cs':=[.int .i64 0, .int .i64 n, .string ByteArray.empty, .bool false, .slice none 0 0, .slice none 0 0, .slice none 0 0]) HGF.out)) rfl ?_
 have HKG2:=HKG.out.setRow (g:=w.heap.size + 1) (.inl (by simp)) #[.int .i64 0, .int .i64 n, .string ByteArray.empty, .bool false, .slice none 0 0, .slice none 0 0, .slice none 0 0]
 exact ⟨none, none, none, 0, 0, 0, rfl, ⟨SlIs.nil _ _ _, SlIs.nil _ _ _, SlIs.nil _ _ _, (fun _ e => by cases e), (fun _ e => by cases e), (fun _ e => by cases e)⟩, D.keepg _ _ _ _ _ HNG.out HA2.out HKG2, HKS.out.setRow (.inr (Nat.le_succ _)) _⟩
theorem get_1 {T : TypeId} {v : Value} {fl : Bool} {At : List UInt8 → List UInt8 → World → Prop} {S : List Nat} {raw : Nat} {own : Nat → Prop} (D : Dec T v fl At S raw own) (n : Int) (hn : fitsB 16 n) (A1 A2 A3 : Option Addr) (c1 c2 c3 : Nat) (w : World) (hown : ∀ g, own g → g < w.heap.size) (pre rest : List UInt8) (h : At pre (stepB fl ⟨1, n, ByteArray.empty, false, [], [], []⟩ ++ rest) w) : Calls Tryz.prog 76 #[.iface T v, .agg (stCells (pat ⟨1, n, ByteArray.empty, false, [], [], []⟩) A1 A2 A3 c1 c2 c3).toArray] w (GetR At S raw (got ⟨1, n, ByteArray.empty, false, [], [], []⟩) (pre ++ stepB fl ⟨1, n, ByteArray.empty, false, [], [], []⟩) rest w):=by
 have hng : ¬ own (w.heap.size + 1):=fun hm => by have:=hown _ hm; omega
 have hns : (w.heap.size + 1) ∉ S:=fun hm => hng (D.sub _ hm)
 have hraw : raw < w.heap.size:=hown _ D.rawo
 have HNG:=lh hng
 have HNS:=lh hns
 have HRAW:=lh hraw
 have HH:=lh h
 have hcv : wrap64 n = n:=IntWalk.wrap64_in _ (by simp only [fitsB] at hn; omega)
 clear h hown hng hns hraw
 show Calls Tryz.prog 76 #[.iface T v, .agg #[.int .i64 1, .int .i64 (0 : Nat), .string ByteArray.empty, .bool false, .slice A1 0 c1, .slice A2 0 c2, .slice A3 0 c3]] w _
 go_enter Tryz.func76, Tryz.ntmps76
 go_wp2_with (first
  | (refine wl_invoke rfl _ _ _ _ rfl T v rfl "getInt16" rfl [] (by simp [go_sem]) _ (D.int16 pre rest _ n hn (D.keep _ _ _ _ HH.out (((Kept.refl [] w).alloc _).alloc _))) ?_; rintro e w2 ⟨rfl, ha2, hk2⟩; refine ⟨_, rfl, ?_⟩; have HG2:=lh ((gx_new w _ [.int .i64 1, .int .i64 0, .string ByteArray.empty, .bool false, .slice none 0 0, .slice none 0 0, .slice none 0 0]).keep hk2 HNS.out); have HA2:=lh ha2; have HK2:=lh (((((Kept.refl S w).alloc _).alloc _)).trans hk2 (fun x hx => .inl hx)); have hc1:=HG2.out.cell 1 _ rfl; have hf1:=HG2.out.frozen 1; have HGF:=lh (HG2.out.set 1 (.int .i64 n)); have HKG:=lh ((Kept.refl [w.heap.size + 1] w2).setCell (p:=⟨w.heap.size + 1, 1, none⟩) (.inl (by simp)) (.int .i64 n)); have HKS:=lh (HK2.out.setCell (p:=⟨w.heap.size + 1, 1, none⟩) (.inr (Nat.le_succ _)) (.int .i64 n)); clear ha2 hk2)
  | (refine wl_load_struct rfl 102 _ rfl Tryz.underlying102 rfl rfl (w.heap.size + 1) 0 rfl [.int .i64 1, .int .i64 n, .string ByteArray.empty, .bool false, .slice none 0 0, .slice none 0 0, .slice none 0 0] rfl HGF.out.cells ?_)
  | (refine wl_store_struct rfl 102 _ _ rfl (cs:=#[.int .i64 1, .int .i64 n, .string ByteArray.empty, .bool false, .slice none 0 0, .slice none 0 0, .slice none 0 0]) rfl (w.heap.size + 1) rfl rfl 102 _ HGF.out rfl (by simp [Value.oneCell']) ?_))
 refine bodyPost_ret (results_cell_agg rfl _ _ rfl rfl (GX.row (cs':=[.int .i64 1, .int .i64 n, .string ByteArray.empty, .bool false, .slice none 0 0, .slice none 0 0, .slice none 0 0]) HGF.out)) rfl ?_
 have HKG2:=HKG.out.setRow (g:=w.heap.size + 1) (.inl (by simp)) #[.int .i64 1, .int .i64 n, .string ByteArray.empty, .bool false, .slice none 0 0, .slice none 0 0, .slice none 0 0]
 exact ⟨none, none, none, 0, 0, 0, rfl, ⟨SlIs.nil _ _ _, SlIs.nil _ _ _, SlIs.nil _ _ _, (fun _ e => by cases e), (fun _ e => by cases e), (fun _ e => by cases e)⟩, D.keepg _ _ _ _ _ HNG.out HA2.out HKG2, HKS.out.setRow (.inr (Nat.le_succ _)) _⟩
theorem get_2 {T : TypeId} {v : Value} {fl : Bool} {At : List UInt8 → List UInt8 → World → Prop} {S : List Nat} {raw : Nat} {own : Nat → Prop} (D : Dec T v fl At S raw own) (n : Int) (hn : fitsB 32 n) (A1 A2 A3 : Option Addr) (c1 c2 c3 : Nat) (w : World) (hown : ∀ g, own g → g < w.heap.size) (pre rest : List UInt8) (h : At pre (stepB fl ⟨2, n, ByteArray.empty, false, [], [], []⟩ ++ rest) w) : Calls Tryz.prog 76 #[.iface T v, .agg (stCells (pat ⟨2, n, ByteArray.empty, false, [], [], []⟩) A1 A2 A3 c1 c2 c3).toArray] w (GetR At S raw (got ⟨2, n, ByteArray.empty, false, [], [], []⟩) (pre ++ stepB fl ⟨2, n, ByteArray.empty, false, [], [], []⟩) rest w):=by
 have hng : ¬ own (w.heap.size + 1):=fun hm => by have:=hown _ hm; omega
 have hns : (w.heap.size + 1) ∉ S:=fun hm => hng (D.sub _ hm)
 have hraw : raw < w.heap.size:=hown _ D.rawo
 have HNG:=lh hng
 have HNS:=lh hns
 have HRAW:=lh hraw
 have HH:=lh h
 have hcv : wrap64 n = n:=IntWalk.wrap64_in _ (by simp only [fitsB] at hn; omega)
 clear h hown hng hns hraw
 show Calls Tryz.prog 76 #[.iface T v, .agg #[.int .i64 2, .int .i64 (0 : Nat), .string ByteArray.empty, .bool false, .slice A1 0 c1, .slice A2 0 c2, .slice A3 0 c3]] w _
 go_enter Tryz.func76, Tryz.ntmps76
 go_wp2_with (first
  | (refine wl_invoke rfl _ _ _ _ rfl T v rfl "getInt32" rfl [] (by simp [go_sem]) _ (D.int32 pre rest _ n hn (D.keep _ _ _ _ HH.out (((Kept.refl [] w).alloc _).alloc _))) ?_; rintro e w2 ⟨rfl, ha2, hk2⟩; refine ⟨_, rfl, ?_⟩; have HG2:=lh ((gx_new w _ [.int .i64 2, .int .i64 0, .string ByteArray.empty, .bool false, .slice none 0 0, .slice none 0 0, .slice none 0 0]).keep hk2 HNS.out); have HA2:=lh ha2; have HK2:=lh (((((Kept.refl S w).alloc _).alloc _)).trans hk2 (fun x hx => .inl hx)); have hc1:=HG2.out.cell 1 _ rfl; have hf1:=HG2.out.frozen 1; have HGF:=lh (HG2.out.set 1 (.int .i64 n)); have HKG:=lh ((Kept.refl [w.heap.size + 1] w2).setCell (p:=⟨w.heap.size + 1, 1, none⟩) (.inl (by simp)) (.int .i64 n)); have HKS:=lh (HK2.out.setCell (p:=⟨w.heap.size + 1, 1, none⟩) (.inr (Nat.le_succ _)) (.int .i64 n)); clear ha2 hk2)
  | (refine wl_load_struct rfl 102 _ rfl Tryz.underlying102 rfl rfl (w.heap.size + 1) 0 rfl [.int .i64 2, .int .i64 n, .string ByteArray.empty, .bool false, .slice none 0 0, .slice none 0 0, .slice none 0 0] rfl HGF.out.cells ?_)
  | (refine wl_store_struct rfl 102 _ _ rfl (cs:=#[.int .i64 2, .int .i64 n, .string ByteArray.empty, .bool false, .slice none 0 0, .slice none 0 0, .slice none 0 0]) rfl (w.heap.size + 1) rfl rfl 102 _ HGF.out rfl (by simp [Value.oneCell']) ?_))
 refine bodyPost_ret (results_cell_agg rfl _ _ rfl rfl (GX.row (cs':=[.int .i64 2, .int .i64 n, .string ByteArray.empty, .bool false, .slice none 0 0, .slice none 0 0, .slice none 0 0]) HGF.out)) rfl ?_
 have HKG2:=HKG.out.setRow (g:=w.heap.size + 1) (.inl (by simp)) #[.int .i64 2, .int .i64 n, .string ByteArray.empty, .bool false, .slice none 0 0, .slice none 0 0, .slice none 0 0]
 exact ⟨none, none, none, 0, 0, 0, rfl, ⟨SlIs.nil _ _ _, SlIs.nil _ _ _, SlIs.nil _ _ _, (fun _ e => by cases e), (fun _ e => by cases e), (fun _ e => by cases e)⟩, D.keepg _ _ _ _ _ HNG.out HA2.out HKG2, HKS.out.setRow (.inr (Nat.le_succ _)) _⟩
theorem get_3 {T : TypeId} {v : Value} {fl : Bool} {At : List UInt8 → List UInt8 → World → Prop} {S : List Nat} {raw : Nat} {own : Nat → Prop} (D : Dec T v fl At S raw own) (n : Int) (hn : Num64 n) (A1 A2 A3 : Option Addr) (c1 c2 c3 : Nat) (w : World) (hown : ∀ g, own g → g < w.heap.size) (pre rest : List UInt8) (h : At pre (stepB fl ⟨3, n, ByteArray.empty, false, [], [], []⟩ ++ rest) w) : Calls Tryz.prog 76 #[.iface T v, .agg (stCells (pat ⟨3, n, ByteArray.empty, false, [], [], []⟩) A1 A2 A3 c1 c2 c3).toArray] w (GetR At S raw (got ⟨3, n, ByteArray.empty, false, [], [], []⟩) (pre ++ stepB fl ⟨3, n, ByteArray.empty, false, [], [], []⟩) rest w):=by
 have hng : ¬ own (w.heap.size + 1):=fun hm => by have:=hown _ hm; omega
 have hns : (w.heap.size + 1) ∉ S:=fun hm => hng (D.sub _ hm)
 have hraw : raw < w.heap.size:=hown _ D.rawo
 have HNG:=lh hng
 have HNS:=lh hns
 have HRAW:=lh hraw
 have HH:=lh h
 clear h hown hng hns hraw
 show Calls Tryz.prog 76 #[.iface T v, .agg #[.int .i64 3, .int .i64 (0 : Nat), .string ByteArray.empty, .bool false, .slice A1 0 c1, .slice A2 0 c2, .slice A3 0 c3]] w _
 go_enter Tryz.func76, Tryz.ntmps76
 go_wp2_with (first
  | (refine wl_invoke rfl _ _ _ _ rfl T v rfl "getInt64" rfl [] (by simp [go_sem]) _ (D.int64 pre rest _ n hn (D.keep _ _ _ _ HH.out (((Kept.refl [] w).alloc _).alloc _))) ?_; rintro e w2 ⟨rfl, ha2, hk2⟩; refine ⟨_, rfl, ?_⟩; have HG2:=lh ((gx_new w _ [.int .i64 3, .int .i64 0, .string ByteArray.empty, .bool false, .slice none 0 0, .slice none 0 0, .slice none 0 0]).keep hk2 HNS.out); have HA2:=lh ha2; have HK2:=lh (((((Kept.refl S w).alloc _).alloc _)).trans hk2 (fun x hx => .inl hx)); have hc1:=HG2.out.cell 1 _ rfl; have hf1:=HG2.out.frozen 1; have HGF:=lh (HG2.out.set 1 (.int .i64 n)); have HKG:=lh ((Kept.refl [w.heap.size + 1] w2).setCell (p:=⟨w.heap.size + 1, 1, none⟩) (.inl (by simp)) (.int .i64 n)); have HKS:=lh (HK2.out.setCell (p:=⟨w.heap.size + 1, 1, none⟩) (.inr (Nat.le_succ _)) (.int .i64 n)); clear ha2 hk2)
  | (refine wl_load_struct rfl 102 _ rfl Tryz.underlying102 rfl rfl (w.heap.size + 1) 0 rfl [.int .i64 3, .int .i64 n, .string ByteArray.empty, .bool false, .slice none 0 0, .slice none 0 0, .slice none 0 0] rfl HGF.out.cells ?_)
  | (refine wl_store_struct rfl 102 _ _ rfl (cs:=#[.int .i64 3, .int .i64 n, .string ByteArray.empty, .bool false, .slice none 0 0, .slice none 0 0, .slice none 0 0]) rfl (w.heap.size + 1) rfl rfl 102 _ HGF.out rfl (by simp [Value.oneCell']) ?_))
 refine bodyPost_ret (results_cell_agg rfl _ _ rfl rfl (GX.row (cs':=[.int .i64 3, .int .i64 n, .string ByteArray.empty, .bool false, .slice none 0 0, .slice none 0 0, .slice none 0 0]) HGF.out)) rfl ?_
 have HKG2:=HKG.out.setRow (g:=w.heap.size + 1) (.inl (by simp)) #[.int .i64 3, .int .i64 n, .string ByteArray.empty, .bool false, .slice none 0 0, .slice none 0 0, .slice none 0 0]
 exact ⟨none, none, none, 0, 0, 0, rfl, ⟨SlIs.nil _ _ _, SlIs.nil _ _ _, SlIs.nil _ _ _, (fun _ e => by cases e), (fun _ e => by cases e), (fun _ e => by cases e)⟩, D.keepg _ _ _ _ _ HNG.out HA2.out HKG2, HKS.out.setRow (.inr (Nat.le_succ _)) _⟩
theorem get_4 {T : TypeId} {v : Value} {fl : Bool} {At : List UInt8 → List UInt8 → World → Prop} {S : List Nat} {raw : Nat} {own : Nat → Prop} (D : Dec T v fl At S raw own) (n : Int) (hn : Num64 n) (A1 A2 A3 : Option Addr) (c1 c2 c3 : Nat) (w : World) (hown : ∀ g, own g → g < w.heap.size) (pre rest : List UInt8) (h : At pre (stepB fl ⟨4, n, ByteArray.empty, false, [], [], []⟩ ++ rest) w) : Calls Tryz.prog 76 #[.iface T v, .agg (stCells (pat ⟨4, n, ByteArray.empty, false, [], [], []⟩) A1 A2 A3 c1 c2 c3).toArray] w (GetR At S raw (got ⟨4, n, ByteArray.empty, false, [], [], []⟩) (pre ++ stepB fl ⟨4, n, ByteArray.empty, false, [], [], []⟩) rest w):=by
 have hng : ¬ own (w.heap.size + 1):=fun hm => by have:=hown _ hm; omega
 have hns : (w.heap.size + 1) ∉ S:=fun hm => hng (D.sub _ hm)
 have hraw : raw < w.heap.size:=hown _ D.rawo
 have HNG:=lh hng
 have HNS:=lh hns
 have HRAW:=lh hraw
 have HH:=lh h
 clear h hown hng hns hraw
 show Calls Tryz.prog 76 #[.iface T v, .agg #[.int .i64 4, .int .i64 (0 : Nat), .string ByteArray.empty, .bool false, .slice A1 0 c1, .slice A2 0 c2, .slice A3 0 c3]] w _
 go_enter Tryz.func76, Tryz.ntmps76
 go_wp2_with (first
  | (refine wl_invoke rfl _ _ _ _ rfl T v rfl "getVarint" rfl [] (by simp [go_sem]) _ (D.varint pre rest _ n hn (D.keep _ _ _ _ HH.out (((Kept.refl [] w).alloc _).alloc _))) ?_; rintro e w2 ⟨rfl, ha2, hk2⟩; refine ⟨_, rfl, ?_⟩; have HG2:=lh ((gx_new w _ [.int .i64 4, .int .i64 0, .string ByteArray.empty, .bool false, .slice none 0 0, .slice none 0 0, .slice none 0 0]).keep hk2 HNS.out); have HA2:=lh ha2; have HK2:=lh (((((Kept.refl S w).alloc _).alloc _)).trans hk2 (fun x hx => .inl hx)); have hc1:=HG2.out.cell 1 _ rfl; have hf1:=HG2.out.frozen 1; have HGF:=lh (HG2.out.set 1 (.int .i64 n)); have HKG:=lh ((Kept.refl [w.heap.size + 1] w2).setCell (p:=⟨w.heap.size + 1, 1, none⟩) (.inl (by simp)) (.int .i64 n)); have HKS:=lh (HK2.out.setCell (p:=⟨w.heap.size + 1, 1, none⟩) (.inr (Nat.le_succ _)) (.int .i64 n)); clear ha2 hk2)
  | (refine wl_load_struct rfl 102 _ rfl Tryz.underlying102 rfl rfl (w.heap.size + 1) 0 rfl [.int .i64 4, .int .i64 n, .string ByteArray.empty, .bool false, .slice none 0 0, .slice none 0 0, .slice none 0 0] rfl HGF.out.cells ?_)
  | (refine wl_store_struct rfl 102 _ _ rfl (cs:=#[.int .i64 4, .int .i64 n, .string ByteArray.empty, .bool false, .slice none 0 0, .slice none 0 0, .slice none 0 0]) rfl (w.heap.size + 1) rfl rfl 102 _ HGF.out rfl (by simp [Value.oneCell']) ?_))
 refine bodyPost_ret (results_cell_agg rfl _ _ rfl rfl (GX.row (cs':=[.int .i64 4, .int .i64 n, .string ByteArray.empty, .bool false, .slice none 0 0, .slice none 0 0, .slice none 0 0]) HGF.out)) rfl ?_
 have HKG2:=HKG.out.setRow (g:=w.heap.size + 1) (.inl (by simp)) #[.int .i64 4, .int .i64 n, .string ByteArray.empty, .bool false, .slice none 0 0, .slice none 0 0, .slice none 0 0]
 exact ⟨none, none, none, 0, 0, 0, rfl, ⟨SlIs.nil _ _ _, SlIs.nil _ _ _, SlIs.nil _ _ _, (fun _ e => by cases e), (fun _ e => by cases e), (fun _ e => by cases e)⟩, D.keepg _ _ _ _ _ HNG.out HA2.out HKG2, HKS.out.setRow (.inr (Nat.le_succ _)) _⟩
theorem get_5 {T : TypeId} {v : Value} {fl : Bool} {At : List UInt8 → List UInt8 → World → Prop} {S : List Nat} {raw : Nat} {own : Nat → Prop} (D : Dec T v fl At S raw own) (n : Int) (hn : Num64 n) (A1 A2 A3 : Option Addr) (c1 c2 c3 : Nat) (w : World) (hown : ∀ g, own g → g < w.heap.size) (pre rest : List UInt8) (h : At pre (stepB fl ⟨5, n, ByteArray.empty, false, [], [], []⟩ ++ rest) w) : Calls Tryz.prog 76 #[.iface T v, .agg (stCells (pat ⟨5, n, ByteArray.empty, false, [], [], []⟩) A1 A2 A3 c1 c2 c3).toArray] w (GetR At S raw (got ⟨5, n, ByteArray.empty, false, [], [], []⟩) (pre ++ stepB fl ⟨5, n, ByteArray.empty, false, [], [], []⟩) rest w):=by
 have hng : ¬ own (w.heap.size + 1):=fun hm => by have:=hown _ hm; omega
 have hns : (w.heap.size + 1) ∉ S:=fun hm => hng (D.sub _ hm)
 have hraw : raw < w.heap.size:=hown _ D.rawo
 have HNG:=lh hng
 have HNS:=lh hns
 have HRAW:=lh hraw
 have HH:=lh h
 have hcv : wrap64 ((u64 n : Nat) : Int) = n:=by
  have h1:=u64_i64 hn
  exact h1
 clear h hown hng hns hraw
 show Calls Tryz.prog 76 #[.iface T v, .agg #[.int .i64 5, .int .i64 (0 : Nat), .string ByteArray.empty, .bool false, .slice A1 0 c1, .slice A2 0 c2, .slice A3 0 c3]] w _
 go_enter Tryz.func76, Tryz.ntmps76
 go_wp2_with (first
  | (refine wl_invoke rfl _ _ _ _ rfl T v rfl "getUVarint" rfl [] (by simp [go_sem]) _ (D.uvarint pre rest _ (u64 n) (u64_lt n) (D.keep _ _ _ _ HH.out (((Kept.refl [] w).alloc _).alloc _))) ?_; rintro e w2 ⟨rfl, ha2, hk2⟩; refine ⟨_, rfl, ?_⟩; have HG2:=lh ((gx_new w _ [.int .i64 5, .int .i64 0, .string ByteArray.empty, .bool false, .slice none 0 0, .slice none 0 0, .slice none 0 0]).keep hk2 HNS.out); have HA2:=lh ha2; have HK2:=lh (((((Kept.refl S w).alloc _).alloc _)).trans hk2 (fun x hx => .inl hx)); have hc1:=HG2.out.cell 1 _ rfl; have hf1:=HG2.out.frozen 1; have HGF:=lh (HG2.out.set 1 (.int .i64 n)); have HKG:=lh ((Kept.refl [w.heap.size + 1] w2).setCell (p:=⟨w.heap.size + 1, 1, none⟩) (.inl (by simp)) (.int .i64 n)); have HKS:=lh (HK2.out.setCell (p:=⟨w.heap.size + 1, 1, none⟩) (.inr (Nat.le_succ _)) (.int .i64 n)); clear ha2 hk2)
  | (refine wl_load_struct rfl 102 _ rfl Tryz.underlying102 rfl rfl (w.heap.size + 1) 0 rfl [.int .i64 5, .int .i64 n, .string ByteArray.empty, .bool false, .slice none 0 0, .slice none 0 0, .slice none 0 0] rfl HGF.out.cells ?_)
  | (refine wl_store_struct rfl 102 _ _ rfl (cs:=#[.int .i64 5, .int .i64 n, .string ByteArray.empty, .bool false, .slice none 0 0, .slice none 0 0, .slice none 0 0]) rfl (w.heap.size + 1) rfl rfl 102 _ HGF.out rfl (by simp [Value.oneCell']) ?_))
 refine bodyPost_ret (results_cell_agg rfl _ _ rfl rfl (GX.row (cs':=[.int .i64 5, .int .i64 n, .string ByteArray.empty, .bool false, .slice none 0 0, .slice none 0 0, .slice none 0 0]) HGF.out)) rfl ?_
 have HKG2:=HKG.out.setRow (g:=w.heap.size + 1) (.inl (by simp)) #[.int .i64 5, .int .i64 n, .string ByteArray.empty, .bool false, .slice none 0 0, .slice none 0 0, .slice none 0 0]
 exact ⟨none, none, none, 0, 0, 0, rfl, ⟨SlIs.nil _ _ _, SlIs.nil _ _ _, SlIs.nil _ _ _, (fun _ e => by cases e), (fun _ e => by cases e), (fun _ e => by cases e)⟩, D.keepg _ _ _ _ _ HNG.out HA2.out HKG2, HKS.out.setRow (.inr (Nat.le_succ _)) _⟩
theorem get_6 {T : TypeId} {v : Value} {fl : Bool} {At : List UInt8 → List UInt8 → World → Prop} {S : List Nat} {raw : Nat} {own : Nat → Prop} (D : Dec T v fl At S raw own) (n : Int) (hn : Num64 n) (A1 A2 A3 : Option Addr) (c1 c2 c3 : Nat) (w : World) (hown : ∀ g, own g → g < w.heap.size) (pre rest : List UInt8) (h : At pre (stepB fl ⟨6, n, ByteArray.empty, false, [], [], []⟩ ++ rest) w) : Calls Tryz.prog 76 #[.iface T v, .agg (stCells (pat ⟨6, n, ByteArray.empty, false, [], [], []⟩) A1 A2 A3 c1 c2 c3).toArray] w (GetR At S raw (got ⟨6, n, ByteArray.empty, false, [], [], []⟩) (pre ++ stepB fl ⟨6, n, ByteArray.empty, false, [], [], []⟩) rest w):=by
 have hng : ¬ own (w.heap.size + 1):=fun hm => by have:=hown _ hm; omega
 have hns : (w.heap.size + 1) ∉ S:=fun hm => hng (D.sub _ hm)
 have hraw : raw < w.heap.size:=hown _ D.rawo
 have HNG:=lh hng
 have HNS:=lh hns
 have HRAW:=lh hraw
 have HH:=lh h
 have hcv : wrap64 ((u64 n : Nat) : Int) = n:=by
  have h1:=u64_i64 hn
  exact h1
 have hb88 : ∀ W : World, (callFunc 88 #[.float .f64 (u64 n)]).run Tryz.prog W = .ok (.value (.int .u64 ((u64 n : Nat) : Int))) W:=fun W => bits88 _ W
 clear h hown hng hns hraw
 show Calls Tryz.prog 76 #[.iface T v, .agg #[.int .i64 6, .int .i64 (0 : Nat), .string ByteArray.empty, .bool false, .slice A1 0 c1, .slice A2 0 c2, .slice A3 0 c3]] w _
 go_enter Tryz.func76, Tryz.ntmps76
 go_wp2_with (first
  | (refine wl_invoke rfl _ _ _ _ rfl T v rfl "getFloat64" rfl [] (by simp [go_sem]) _ (D.float pre rest _ n (D.keep _ _ _ _ HH.out (((Kept.refl [] w).alloc _).alloc _))) ?_; rintro e w2 ⟨rfl, ha2, hk2⟩; refine ⟨_, rfl, ?_⟩; have HG2:=lh ((gx_new w _ [.int .i64 6, .int .i64 0, .string ByteArray.empty, .bool false, .slice none 0 0, .slice none 0 0, .slice none 0 0]).keep hk2 HNS.out); have HA2:=lh ha2; have HK2:=lh (((((Kept.refl S w).alloc _).alloc _)).trans hk2 (fun x hx => .inl hx)); have hc1:=HG2.out.cell 1 _ rfl; have hf1:=HG2.out.frozen 1; have HGF:=lh (HG2.out.set 1 (.int .i64 n)); have HKG:=lh ((Kept.refl [w.heap.size + 1] w2).setCell (p:=⟨w.heap.size + 1, 1, none⟩) (.inl (by simp)) (.int .i64 n)); have HKS:=lh (HK2.out.setCell (p:=⟨w.heap.size + 1, 1, none⟩) (.inr (Nat.le_succ _)) (.int .i64 n)); clear ha2 hk2)
  | (refine wl_load_struct rfl 102 _ rfl Tryz.underlying102 rfl rfl (w.heap.size + 1) 0 rfl [.int .i64 6, .int .i64 n, .string ByteArray.empty, .bool false, .slice none 0 0, .slice none 0 0, .slice none 0 0] rfl HGF.out.cells ?_)
  | (refine wl_store_struct rfl 102 _ _ rfl (cs:=#[.int .i64 6, .int .i64 n, .string ByteArray.empty, .bool false, .slice none 0 0, .slice none 0 0, .slice none 0 0]) rfl (w.heap.size + 1) rfl rfl 102 _ HGF.out rfl (by simp [Value.oneCell']) ?_))
 refine bodyPost_ret (results_cell_agg rfl _ _ rfl rfl (GX.row (cs':=[.int .i64 6, .int .i64 n, .string ByteArray.empty, .bool false, .slice none 0 0, .slice none 0 0, .slice none 0 0]) HGF.out)) rfl ?_
 have HKG2:=HKG.out.setRow (g:=w.heap.size + 1) (.inl (by simp)) #[.int .i64 6, .int .i64 n, .string ByteArray.empty, .bool false, .slice none 0 0, .slice none 0 0, .slice none 0 0]
 exact ⟨none, none, none, 0, 0, 0, rfl, ⟨SlIs.nil _ _ _, SlIs.nil _ _ _, SlIs.nil _ _ _, (fun _ e => by cases e), (fun _ e => by cases e), (fun _ e => by cases e)⟩, D.keepg _ _ _ _ _ HNG.out HA2.out HKG2, HKS.out.setRow (.inr (Nat.le_succ _)) _⟩
theorem get_7_0 {T : TypeId} {v : Value} {fl : Bool} {At : List UInt8 → List UInt8 → World → Prop} {S : List Nat} {raw : Nat} {own : Nat → Prop} (D : Dec T v fl At S raw own) (A1 A2 A3 : Option Addr) (c1 c2 c3 : Nat) (w : World) (hown : ∀ g, own g → g < w.heap.size) (pre rest : List UInt8) (h : At pre (stepB fl ⟨7, 0, ByteArray.empty, false, [], [], []⟩ ++ rest) w) : Calls Tryz.prog 76 #[.iface T v, .agg (stCells (pat ⟨7, 0, ByteArray.empty, false, [], [], []⟩) A1 A2 A3 c1 c2 c3).toArray] w (GetR At S raw (got ⟨7, 0, ByteArray.empty, false, [], [], []⟩) (pre ++ stepB fl ⟨7, 0, ByteArray.empty, false, [], [], []⟩) rest w):=by
 have hng : ¬ own (w.heap.size + 1):=fun hm => by have:=hown _ hm; omega
 have hns : (w.heap.size + 1) ∉ S:=fun hm => hng (D.sub _ hm)
 have hraw : raw < w.heap.size:=hown _ D.rawo
 have HNG:=lh hng
 have HNS:=lh hns
 have HRAW:=lh hraw
 have HH:=lh h
 clear h hown hng hns hraw
 show Calls Tryz.prog 76 #[.iface T v, .agg #[.int .i64 7, .int .i64 (0 : Nat), .string ByteArray.empty, .bool false, .slice A1 0 c1, .slice A2 0 c2, .slice A3 0 c3]] w _
 go_enter Tryz.func76, Tryz.ntmps76
 go_wp2_with (first
  | (refine wl_invoke rfl _ _ _ _ rfl T v rfl "getBool" rfl [] (by simp [go_sem]) _ (D.bool pre rest _ false (D.keep _ _ _ _ HH.out (((Kept.refl [] w).alloc _).alloc _))) ?_; rintro e w2 ⟨rfl, ha2, hk2⟩; refine ⟨_, rfl, ?_⟩; have HG2:=lh ((gx_new w _ [.int .i64 7, .int .i64 0, .string ByteArray.empty, .bool false, .slice none 0 0, .slice none 0 0, .slice none 0 0]).keep hk2 HNS.out); have HA2:=lh ha2; have HK2:=lh (((((Kept.refl S w).alloc _).alloc _)).trans hk2 (fun x hx => .inl hx)); have HGF:=lh HG2.out; have HKG:=lh (Kept.refl [w.heap.size + 1] w2); have HKS:=lh HK2.out; clear ha2 hk2)
  | (refine wl_load_struct rfl 102 _ rfl Tryz.underlying102 rfl rfl (w.heap.size + 1) 0 rfl [.int .i64 7, .int .i64 0, .string ByteArray.empty, .bool false, .slice none 0 0, .slice none 0 0, .slice none 0 0] rfl HGF.out.cells ?_)
  | (refine wl_store_struct rfl 102 _ _ rfl (cs:=#[.int .i64 7, .int .i64 0, .string ByteArray.empty, .bool false, .slice none 0 0, .slice none 0 0, .slice none 0 0]) rfl (w.heap.size + 1) rfl rfl 102 _ HGF.out rfl (by simp [Value.oneCell']) ?_))
 refine bodyPost_ret (results_cell_agg rfl _ _ rfl rfl (GX.row (cs':=[.int .i64 7, .int .i64 0, .string ByteArray.empty, .bool false, .slice none 0 0, .slice none 0 0, .slice none 0 0]) HGF.out)) rfl ?_
 have HKG2:=HKG.out.setRow (g:=w.heap.size + 1) (.inl (by simp)) #[.int .i64 7, .int .i64 0, .string ByteArray.empty, .bool false, .slice none 0 0, .slice none 0 0, .slice none 0 0]
 exact ⟨none, none, none, 0, 0, 0, rfl, ⟨SlIs.nil _ _ _, SlIs.nil _ _ _, SlIs.nil _ _ _, (fun _ e => by cases e), (fun _ e => by cases e), (fun _ e => by cases e)⟩, D.keepg _ _ _ _ _ HNG.out HA2.out HKG2, HKS.out.setRow (.inr (Nat.le_succ _)) _⟩
theorem get_7_1 {T : TypeId} {v : Value} {fl : Bool} {At : List UInt8 → List UInt8 → World → Prop} {S : List Nat} {raw : Nat} {own : Nat → Prop} (D : Dec T v fl At S raw own) (A1 A2 A3 : Option Addr) (c1 c2 c3 : Nat) (w : World) (hown : ∀ g, own g → g < w.heap.size) (pre rest : List UInt8) (h : At pre (stepB fl ⟨7, 1, ByteArray.empty, false, [], [], []⟩ ++ rest) w) : Calls Tryz.prog 76 #[.iface T v, .agg (stCells (pat ⟨7, 1, ByteArray.empty, false, [], [], []⟩) A1 A2 A3 c1 c2 c3).toArray] w (GetR At S raw (got ⟨7, 1, ByteArray.empty, false, [], [], []⟩) (pre ++ stepB fl ⟨7, 1, ByteArray.empty, false, [], [], []⟩) rest w):=by
 have hng : ¬ own (w.heap.size + 1):=fun hm => by have:=hown _ hm; omega
 have hns : (w.heap.size + 1) ∉ S:=fun hm => hng (D.sub _ hm)
 have hraw : raw < w.heap.size:=hown _ D.rawo
 have HNG:=lh hng
 have HNS:=lh hns
 have HRAW:=lh hraw
 have HH:=lh h
 clear h hown hng hns hraw
 show Calls Tryz.prog 76 #[.iface T v, .agg #[.int .i64 7, .int .i64 (0 : Nat), .string ByteArray.empty, .bool false, .slice A1 0 c1, .slice A2 0 c2, .slice A3 0 c3]] w _
 go_enter Tryz.func76, Tryz.ntmps76
 go_wp2_with (first
  | (refine wl_invoke rfl _ _ _ _ rfl T v rfl "getBool" rfl [] (by simp [go_sem]) _ (D.bool pre rest _ true (D.keep _ _ _ _ HH.out (((Kept.refl [] w).alloc _).alloc _))) ?_; rintro e w2 ⟨rfl, ha2, hk2⟩; refine ⟨_, rfl, ?_⟩; have HG2:=lh ((gx_new w _ [.int .i64 7, .int .i64 0, .string ByteArray.empty, .bool false, .slice none 0 0, .slice none 0 0, .slice none 0 0]).keep hk2 HNS.out); have HA2:=lh ha2; have HK2:=lh (((((Kept.refl S w).alloc _).alloc _)).trans hk2 (fun x hx => .inl hx)); have hc1:=HG2.out.cell 1 _ rfl; have hf1:=HG2.out.frozen 1; have HGF:=lh (HG2.out.set 1 (.int .i64 1)); have HKG:=lh ((Kept.refl [w.heap.size + 1] w2).setCell (p:=⟨w.heap.size + 1, 1, none⟩) (.inl (by simp)) (.int .i64 1)); have HKS:=lh (HK2.out.setCell (p:=⟨w.heap.size + 1, 1, none⟩) (.inr (Nat.le_succ _)) (.int .i64 1)); clear ha2 hk2)
  | (refine wl_load_struct rfl 102 _ rfl Tryz.underlying102 rfl rfl (w.heap.size + 1) 0 rfl [.int .i64 7, .int .i64 1, .string ByteArray.empty, .bool false, .slice none 0 0, .slice none 0 0, .slice none 0 0] rfl HGF.out.cells ?_)
  | (refine wl_store_struct rfl 102 _ _ rfl (cs:=#[.int .i64 7, .int .i64 1, .string ByteArray.empty, .bool false, .slice none 0 0, .slice none 0 0, .slice none 0 0]) rfl (w.heap.size + 1) rfl rfl 102 _ HGF.out rfl (by simp [Value.oneCell']) ?_))
 refine bodyPost_ret (results_cell_agg rfl _ _ rfl rfl (GX.row (cs':=[.int .i64 7, .int .i64 1, .string ByteArray.empty, .bool false, .slice none 0 0, .slice none 0 0, .slice none 0 0]) HGF.out)) rfl ?_
 have HKG2:=HKG.out.setRow (g:=w.heap.size + 1) (.inl (by simp)) #[.int .i64 7, .int .i64 1, .string ByteArray.empty, .bool false, .slice none 0 0, .slice none 0 0, .slice none 0 0]
 exact ⟨none, none, none, 0, 0, 0, rfl, ⟨SlIs.nil _ _ _, SlIs.nil _ _ _, SlIs.nil _ _ _, (fun _ e => by cases e), (fun _ e => by cases e), (fun _ e => by cases e)⟩, D.keepg _ _ _ _ _ HNG.out HA2.out HKG2, HKS.out.setRow (.inr (Nat.le_succ _)) _⟩
theorem get_8 {T : TypeId} {v : Value} {fl : Bool} {At : List UInt8 → List UInt8 → World → Prop} {S : List Nat} {raw : Nat} {own : Nat → Prop} (D : Dec T v fl At S raw own) (n : Int) (hn0 : 0 ≤ n) (hn1 : n ≤ 1000) (A1 A2 A3 : Option Addr) (c1 c2 c3 : Nat) (w : World) (hown : ∀ g, own g → g < w.heap.size) (pre rest : List UInt8) (hnr : n ≤ rest.length) (h : At pre (stepB fl ⟨8, n, ByteArray.empty, false, [], [], []⟩ ++ rest) w) : Calls Tryz.prog 76 #[.iface T v, .agg (stCells (pat ⟨8, n, ByteArray.empty, false, [], [], []⟩) A1 A2 A3 c1 c2 c3).toArray] w (GetR At S raw (got ⟨8, n, ByteArray.empty, false, [], [], []⟩) (pre ++ stepB fl ⟨8, n, ByteArray.empty, false, [], [], []⟩) rest w):=by
 have hng : ¬ own (w.heap.size + 1):=fun hm => by have:=hown _ hm; omega
 have hns : (w.heap.size + 1) ∉ S:=fun hm => hng (D.sub _ hm)
 have hraw : raw < w.heap.size:=hown _ D.rawo
 have HNG:=lh hng
 have HNS:=lh hns
 have HRAW:=lh hraw
 have HH:=lh h
 have hcv : wrap64 n = n:=IntWalk.wrap64_in _ (by omega)
 clear h hown hng hns hraw
 show Calls Tryz.prog 76 #[.iface T v, .agg #[.int .i64 8, .int .i64 (0 : Nat), .string ByteArray.empty, .bool false, .slice A1 0 c1, .slice A2 0 c2, .slice A3 0 c3]] w _
 go_enter Tryz.func76, Tryz.ntmps76
 go_wp2_with (first
  | (refine wl_invoke rfl _ _ _ _ rfl T v rfl "getArrayLength" rfl [] (by simp [go_sem]) _ (D.arrlen pre rest _ n hn0 hnr hn1 (D.keep _ _ _ _ HH.out (((Kept.refl [] w).alloc _).alloc _))) ?_; rintro e w2 ⟨rfl, ha2, hk2⟩; refine ⟨_, rfl, ?_⟩; have HG2:=lh ((gx_new w _ [.int .i64 8, .int .i64 0, .string ByteArray.empty, .bool false, .slice none 0 0, .slice none 0 0, .slice none 0 0]).keep hk2 HNS.out); have HA2:=lh ha2; have HK2:=lh (((((Kept.refl S w).alloc _).alloc _)).trans hk2 (fun x hx => .inl hx)); have hc1:=HG2.out.cell 1 _ rfl; have hf1:=HG2.out.frozen 1; have HGF:=lh (HG2.out.set 1 (.int .i64 n)); have HKG:=lh ((Kept.refl [w.heap.size + 1] w2).setCell (p:=⟨w.heap.size + 1, 1, none⟩) (.inl (by simp)) (.int .i64 n)); have HKS:=lh (HK2.out.setCell (p:=⟨w.heap.size + 1, 1, none⟩) (.inr (Nat.le_succ _)) (.int .i64 n)); clear ha2 hk2)
  | (refine wl_load_struct rfl 102 _ rfl Tryz.underlying102 rfl rfl (w.heap.size + 1) 0 rfl [.int .i64 8, .int .i64 n, .string ByteArray.empty, .bool false, .slice none 0 0, .slice none 0 0, .slice none 0 0] rfl HGF.out.cells ?_)
  | (refine wl_store_struct rfl 102 _ _ rfl (cs:=#[.int .i64 8, .int .i64 n, .string ByteArray.empty, .bool false, .slice none 0 0, .slice none 0 0, .slice none 0 0]) rfl (w.heap.size + 1) rfl rfl 102 _ HGF.out rfl (by simp [Value.oneCell']) ?_))
 refine bodyPost_ret (results_cell_agg rfl _ _ rfl rfl (GX.row (cs':=[.int .i64 8, .int .i64 n, .string ByteArray.empty, .bool false, .slice none 0 0, .slice none 0 0, .slice none 0 0]) HGF.out)) rfl ?_
 have HKG2:=HKG.out.setRow (g:=w.heap.size + 1) (.inl (by simp)) #[.int .i64 8, .int .i64 n, .string ByteArray.empty, .bool false, .slice none 0 0, .slice none 0 0, .slice none 0 0]
 exact ⟨none, none, none, 0, 0, 0, rfl, ⟨SlIs.nil _ _ _, SlIs.nil _ _ _, SlIs.nil _ _ _, (fun _ e => by cases e), (fun _ e => by cases e), (fun _ e => by cases e)⟩, D.keepg _ _ _ _ _ HNG.out HA2.out HKG2, HKS.out.setRow (.inr (Nat.le_succ _)) _⟩
theorem get_9 {T : TypeId} {v : Value} {fl : Bool} {At : List UInt8 → List UInt8 → World → Prop} {S : List Nat} {raw : Nat} {own : Nat → Prop} (D : Dec T v fl At S raw own) (s : ByteArray) (hs : s.size ≤ 32767) (A1 A2 A3 : Option Addr) (c1 c2 c3 : Nat) (w : World) (hown : ∀ g, own g → g < w.heap.size) (pre rest : List UInt8) (h : At pre (stepB fl ⟨9, 0, s, false, [], [], []⟩ ++ rest) w) : Calls Tryz.prog 76 #[.iface T v, .agg (stCells (pat ⟨9, 0, s, false, [], [], []⟩) A1 A2 A3 c1 c2 c3).toArray] w (GetR At S raw (got ⟨9, 0, s, false, [], [], []⟩) (pre ++ stepB fl ⟨9, 0, s, false, [], [], []⟩) rest w):=by
 have hng : ¬ own (w.heap.size + 1):=fun hm => by have:=hown _ hm; omega
 have hns : (w.heap.size + 1) ∉ S:=fun hm => hng (D.sub _ hm)
 have hraw : raw < w.heap.size:=hown _ D.rawo
 have HNG:=lh hng
 have HNS:=lh hns
 have HRAW:=lh hraw
 have HH:=lh h
 clear h hown hng hns hraw
 show Calls Tryz.prog 76 #[.iface T v, .agg #[.int .i64 9, .int .i64 (0 : Nat), .string ByteArray.empty, .bool false, .slice A1 0 c1, .slice A2 0 c2, .slice A3 0 c3]] w _
 go_enter Tryz.func76, Tryz.ntmps76
 go_wp2_with (first
  | (refine wl_invoke rfl _ _ _ _ rfl T v rfl "getString" rfl [] (by simp [go_sem]) _ (D.text pre rest _ s hs (D.keep _ _ _ _ HH.out (((Kept.refl [] w).alloc _).alloc _))) ?_; rintro e w2 ⟨rfl, ha2, hk2⟩; refine ⟨_, rfl, ?_⟩; have HG2:=lh ((gx_new w _ [.int .i64 9, .int .i64 0, .string ByteArray.empty, .bool false, .slice none 0 0, .slice none 0 0, .slice none 0 0]).keep hk2 HNS.out); have HA2:=lh ha2; have HK2:=lh (((((Kept.refl S w).alloc _).alloc _)).trans hk2 (fun x hx => .inl hx)); have hc2:=HG2.out.cell 2 _ rfl; have hf2:=HG2.out.frozen 2; have HGF:=lh (HG2.out.set 2 (.string s)); have HKG:=lh ((Kept.refl [w.heap.size + 1] w2).setCell (p:=⟨w.heap.size + 1, 2, none⟩) (.inl (by simp)) (.string s)); have HKS:=lh (HK2.out.setCell (p:=⟨w.heap.size + 1, 2, none⟩) (.inr (Nat.le_succ _)) (.string s)); clear ha2 hk2)
  | (refine wl_load_struct rfl 102 _ rfl Tryz.underlying102 rfl rfl (w.heap.size + 1) 0 rfl [.int .i64 9, .int .i64 0, .string s, .bool false, .slice none 0 0, .slice none 0 0, .slice none 0 0] rfl HGF.out.cells ?_)
  | (refine wl_store_struct rfl 102 _ _ rfl (cs:=#[.int .i64 9, .int .i64 0, .string s, .bool false, .slice none 0 0, .slice none 0 0, .slice none 0 0]) rfl (w.heap.size + 1) rfl rfl 102 _ HGF.out rfl (by simp [Value.oneCell']) ?_))
 refine bodyPost_ret (results_cell_agg rfl _ _ rfl rfl (GX.row (cs':=[.int .i64 9, .int .i64 0, .string s, .bool false, .slice none 0 0, .slice none 0 0, .slice none 0 0]) HGF.out)) rfl ?_
 have HKG2:=HKG.out.setRow (g:=w.heap.size + 1) (.inl (by simp)) #[.int .i64 9, .int .i64 0, .string s, .bool false, .slice none 0 0, .slice none 0 0, .slice none 0 0]
 exact ⟨none, none, none, 0, 0, 0, rfl, ⟨SlIs.nil _ _ _, SlIs.nil _ _ _, SlIs.nil _ _ _, (fun _ e => by cases e), (fun _ e => by cases e), (fun _ e => by cases e)⟩, D.keepg _ _ _ _ _ HNG.out HA2.out HKG2, HKS.out.setRow (.inr (Nat.le_succ _)) _⟩
theorem get_10n {T : TypeId} {v : Value} {fl : Bool} {At : List UInt8 → List UInt8 → World → Prop} {S : List Nat} {raw : Nat} {own : Nat → Prop} (D : Dec T v fl At S raw own) (A1 A2 A3 : Option Addr) (c1 c2 c3 : Nat) (w : World) (hown : ∀ g, own g → g < w.heap.size) (pre rest : List UInt8) (h : At pre (stepB fl ⟨10, 0, ByteArray.empty, true, [], [], []⟩ ++ rest) w) : Calls Tryz.prog 76 #[.iface T v, .agg (stCells (pat ⟨10, 0, ByteArray.empty, true, [], [], []⟩) A1 A2 A3 c1 c2 c3).toArray] w (GetR At S raw (got ⟨10, 0, ByteArray.empty, true, [], [], []⟩) (pre ++ stepB fl ⟨10, 0, ByteArray.empty, true, [], [], []⟩) rest w):=by
 have hng : ¬ own (w.heap.size + 1):=fun hm => by have:=hown _ hm; omega
 have hns : (w.heap.size + 1) ∉ S:=fun hm => hng (D.sub _ hm)
 have hraw : raw < w.heap.size:=hown _ D.rawo
 have HNG:=lh hng
 have HNS:=lh hns
 have HRAW:=lh hraw
 have HH:=lh h
 clear h hown hng hns hraw
 show Calls Tryz.prog 76 #[.iface T v, .agg #[.int .i64 10, .int .i64 (0 : Nat), .string ByteArray.empty, .bool false, .slice A1 0 c1, .slice A2 0 c2, .slice A3 0 c3]] w _
 go_enter Tryz.func76, Tryz.ntmps76
 go_wp2_with (first
  | (refine wl_invoke rfl _ _ _ _ rfl T v rfl "getNullableString" rfl [] (by simp [go_sem]) _ (D.nullText pre rest _ (D.keep _ _ _ _ HH.out (((Kept.refl [] w).alloc _).alloc _))) ?_; rintro e w2 ⟨rfl, ha2, hk2⟩; refine ⟨_, rfl, ?_⟩; have HG2:=lh ((gx_new w _ [.int .i64 10, .int .i64 0, .string ByteArray.empty, .bool false, .slice none 0 0, .slice none 0 0, .slice none 0 0]).keep hk2 HNS.out); have HA2:=lh ha2; have HK2:=lh (((((Kept.refl S w).alloc _).alloc _)).trans hk2 (fun x hx => .inl hx)); have hc3:=HG2.out.cell 3 _ rfl; have hf3:=HG2.out.frozen 3; have HGF:=lh (HG2.out.set 3 (.bool true)); have HKG:=lh ((Kept.refl [w.heap.size + 1] w2).setCell (p:=⟨w.heap.size + 1, 3, none⟩) (.inl (by simp)) (.bool true)); have HKS:=lh (HK2.out.setCell (p:=⟨w.heap.size + 1, 3, none⟩) (.inr (Nat.le_succ _)) (.bool true)); clear ha2 hk2)
  | (refine wl_load_struct rfl 102 _ rfl Tryz.underlying102 rfl rfl (w.heap.size + 1) 0 rfl [.int .i64 10, .int .i64 0, .string ByteArray.empty, .bool true, .slice none 0 0, .slice none 0 0, .slice none 0 0] rfl HGF.out.cells ?_)
  | (refine wl_store_struct rfl 102 _ _ rfl (cs:=#[.int .i64 10, .int .i64 0, .string ByteArray.empty, .bool true, .slice none 0 0, .slice none 0 0, .slice none 0 0]) rfl (w.heap.size + 1) rfl rfl 102 _ HGF.out rfl (by simp [Value.oneCell']) ?_))
 refine bodyPost_ret (results_cell_agg rfl _ _ rfl rfl (GX.row (cs':=[.int .i64 10, .int .i64 0, .string ByteArray.empty, .bool true, .slice none 0 0, .slice none 0 0, .slice none 0 0]) HGF.out)) rfl ?_
 have HKG2:=HKG.out.setRow (g:=w.heap.size + 1) (.inl (by simp)) #[.int .i64 10, .int .i64 0, .string ByteArray.empty, .bool true, .slice none 0 0, .slice none 0 0, .slice none 0 0]
 exact ⟨none, none, none, 0, 0, 0, rfl, ⟨SlIs.nil _ _ _, SlIs.nil _ _ _, SlIs.nil _ _ _, (fun _ e => by cases e), (fun _ e => by cases e), (fun _ e => by cases e)⟩, D.keepg _ _ _ _ _ HNG.out HA2.out HKG2, HKS.out.setRow (.inr (Nat.le_succ _)) _⟩
theorem get_10 {T : TypeId} {v : Value} {fl : Bool} {At : List UInt8 → List UInt8 → World → Prop} {S : List Nat} {raw : Nat} {own : Nat → Prop} (D : Dec T v fl At S raw own) (s : ByteArray) (hs : s.size ≤ 32767) (A1 A2 A3 : Option Addr) (c1 c2 c3 : Nat) (w : World) (hown : ∀ g, own g → g < w.heap.size) (pre rest : List UInt8) (h : At pre (stepB fl ⟨10, 0, s, false, [], [], []⟩ ++ rest) w) : Calls Tryz.prog 76 #[.iface T v, .agg (stCells (pat ⟨10, 0, s, false, [], [], []⟩) A1 A2 A3 c1 c2 c3).toArray] w (GetR At S raw (got ⟨10, 0, s, false, [], [], []⟩) (pre ++ stepB fl ⟨10, 0, s, false, [], [], []⟩) rest w):=by
 have hng : ¬ own (w.heap.size + 1):=fun hm => by have:=hown _ hm; omega
 have hns : (w.heap.size + 1) ∉ S:=fun hm => hng (D.sub _ hm)
 have hraw : raw < w.heap.size:=hown _ D.rawo
 have HNG:=lh hng
 have HNS:=lh hns
 have HRAW:=lh hraw
 have HH:=lh h
 clear h hown hng hns hraw
 show Calls Tryz.prog 76 #[.iface T v, .agg #[.int .i64 10, .int .i64 (0 : Nat), .string ByteArray.empty, .bool false, .slice A1 0 c1, .slice A2 0 c2, .slice A3 0 c3]] w _
 go_enter Tryz.func76, Tryz.ntmps76
 go_wp2_with (first
  | (refine wl_invoke rfl _ _ _ _ rfl T v rfl "getNullableString" rfl [] (by simp [go_sem]) _ (D.someText pre rest _ s hs (D.keep _ _ _ _ HH.out (((Kept.refl [] w).alloc _).alloc _))) ?_; rintro e w2 ⟨a, rfl, hca, ha2, hk2⟩; refine ⟨_, rfl, ?_⟩; have HG2:=lh ((gx_new w _ [.int .i64 10, .int .i64 0, .string ByteArray.empty, .bool false, .slice none 0 0, .slice none 0 0, .slice none 0 0]).keep hk2 HNS.out); have HA2:=lh ha2; have HK2:=lh (((((Kept.refl S w).alloc _).alloc _)).trans hk2 (fun x hx => .inl hx)); have hane : a ≠ ⟨w.heap.size + 1, 3, none⟩:=(fun e => by have h8:=HG2.out.cell 3 _ rfl; rw [← e, hca] at h8; cases h8); have hca3 : (w2.setCell ⟨w.heap.size + 1, 3, none⟩ (.bool false)).cell? a = some (.string s):=(by rw [World.cell?_setCell_other _ _ _ _ (Ne.symm hane)]; exact hca); have hc3:=HG2.out.cell 3 _ rfl; have hf3:=HG2.out.frozen 3; have hdd3:=(HG2.out.set 3 (.bool false)).cell 3 _ rfl; have hd2:=(HG2.out.set 3 (.bool false)).cell 2 _ rfl; have he2:=(HG2.out.set 3 (.bool false)).frozen 2; have HGF:=lh ((HG2.out.set 3 (.bool false)).set 2 (.string s)); have HKG:=lh (((Kept.refl [w.heap.size + 1] w2).setCell (p:=⟨w.heap.size + 1, 3, none⟩) (.inl (by simp)) (.bool false)).setCell (p:=⟨w.heap.size + 1, 2, none⟩) (.inl (by simp)) (.string s)); have HKS:=lh ((HK2.out.setCell (p:=⟨w.heap.size + 1, 3, none⟩) (.inr (Nat.le_succ _)) (.bool false)).setCell (p:=⟨w.heap.size + 1, 2, none⟩) (.inr (Nat.le_succ _)) (.string s)); clear ha2 hk2)
  | (refine wl_load_struct rfl 102 _ rfl Tryz.underlying102 rfl rfl (w.heap.size + 1) 0 rfl [.int .i64 10, .int .i64 0, .string s, .bool false, .slice none 0 0, .slice none 0 0, .slice none 0 0] rfl HGF.out.cells ?_)
  | (refine wl_store_struct rfl 102 _ _ rfl (cs:=#[.int .i64 10, .int .i64 0, .string s, .bool false, .slice none 0 0, .slice none 0 0, .slice none 0 0]) rfl (w.heap.size + 1) rfl rfl 102 _ HGF.out rfl (by simp [Value.oneCell']) ?_))
 refine bodyPost_ret (results_cell_agg rfl _ _ rfl rfl (GX.row (cs':=[.int .i64 10, .int .i64 0, .string s, .bool false, .slice none 0 0, .slice none 0 0, .slice none 0 0]) HGF.out)) rfl ?_
 have HKG2:=HKG.out.setRow (g:=w.heap.size + 1) (.inl (by simp)) #[.int .i64 10, .int .i64 0, .string s, .bool false, .slice none 0 0, .slice none 0 0, .slice none 0 0]
 exact ⟨none, none, none, 0, 0, 0, rfl, ⟨SlIs.nil _ _ _, SlIs.nil _ _ _, SlIs.nil _ _ _, (fun _ e => by cases e), (fun _ e => by cases e), (fun _ e => by cases e)⟩, D.keepg _ _ _ _ _ HNG.out HA2.out HKG2, HKS.out.setRow (.inr (Nat.le_succ _)) _⟩
end Go.Proofs.YtmpjikihnmagoaaGreatDoor
