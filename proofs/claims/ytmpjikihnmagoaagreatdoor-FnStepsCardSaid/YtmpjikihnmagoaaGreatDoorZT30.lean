/-
  A datum is read (76), kind by kind. Conditions: the bytes at hand begin with its form.
-/
import Derived.Test.YtmpjikihnmagoaaGreatDoorZT27
set_option maxRecDepth 100000
set_option maxHeartbeats 3200000
namespace Go.Proofs.YtmpjikihnmagoaaGreatDoor
open Go.RowKit
theorem get_11n {T : TypeId} {v : Value} {fl : Bool} {At : List UInt8 → List UInt8 → World → Prop} {S : List Nat} {raw : Nat} {own : Nat → Prop} (D : Dec T v fl At S raw own) (A1 A2 A3 : Option Addr) (c1 c2 c3 : Nat) (w : World) (hown : ∀ g, own g → g < w.heap.size) (pre rest : List UInt8) (h : At pre (stepB fl ⟨11, 0, ByteArray.empty, true, [], [], []⟩ ++ rest) w) : Calls Tryz.prog 76 #[.iface T v, .agg (stCells (pat ⟨11, 0, ByteArray.empty, true, [], [], []⟩) A1 A2 A3 c1 c2 c3).toArray] w (GetR At S raw (got ⟨11, 0, ByteArray.empty, true, [], [], []⟩) (pre ++ stepB fl ⟨11, 0, ByteArray.empty, true, [], [], []⟩) rest w):=by
 have hng : ¬ own (w.heap.size + 1):=fun hm => by have:=hown _ hm; omega
 have hns : (w.heap.size + 1) ∉ S:=fun hm => hng (D.sub _ hm)
 have hraw : raw < w.heap.size:=hown _ D.rawo
 have HNG:=lh hng
 have HNS:=lh hns
 have HRAW:=lh hraw
 have HH:=lh h
 have heq:=fun (W : World) (a : Option Addr) (l c : Nat) => eq_nil W 34 5 Tryz.underlying34 a l c
 clear h hown hng hns hraw
 show Calls Tryz.prog 76 #[.iface T v, .agg #[.int .i64 11, .int .i64 (0 : Nat), .string ByteArray.empty, .bool false, .slice A1 0 c1, .slice A2 0 c2, .slice A3 0 c3]] w _
 go_enter Tryz.func76, Tryz.ntmps76
 go_wp2_with (first
  | (refine wl_invoke rfl _ _ _ _ rfl T v rfl "getBytes" rfl [] (by simp [go_sem]) _ (D.nil pre rest _ (D.keep _ _ _ _ HH.out (((Kept.refl [] w).alloc _).alloc _))) ?_; rintro e w2 ⟨rfl, ha2, hk2⟩; refine ⟨_, rfl, ?_⟩; have HG2:=lh ((gx_new w _ [.int .i64 11, .int .i64 0, .string ByteArray.empty, .bool false, .slice none 0 0, .slice none 0 0, .slice none 0 0]).keep hk2 HNS.out); have HA2:=lh ha2; have HK2:=lh (((((Kept.refl S w).alloc _).alloc _)).trans hk2 (fun x hx => .inl hx)); have hc4:=HG2.out.cell 4 _ rfl; have hf4:=HG2.out.frozen 4; have hdd4:=(HG2.out.set 4 (.slice none 0 0)).cell 4 _ rfl; have hd3:=(HG2.out.set 4 (.slice none 0 0)).cell 3 _ rfl; have he3:=(HG2.out.set 4 (.slice none 0 0)).frozen 3; have HGF:=lh ((HG2.out.set 4 (.slice none 0 0)).set 3 (.bool true)); have HKG:=lh (((Kept.refl [w.heap.size + 1] w2).setCell (p:=⟨w.heap.size + 1, 4, none⟩) (.inl (by simp)) (.slice none 0 0)).setCell (p:=⟨w.heap.size + 1, 3, none⟩) (.inl (by simp)) (.bool true)); have HKS:=lh ((HK2.out.setCell (p:=⟨w.heap.size + 1, 4, none⟩) (.inr (Nat.le_succ _)) (.slice none 0 0)).setCell (p:=⟨w.heap.size + 1, 3, none⟩) (.inr (Nat.le_succ _)) (.bool true)); clear ha2 hk2)
  | (refine wl_load_struct rfl 102 _ rfl Tryz.underlying102 rfl rfl (w.heap.size + 1) 0 rfl [.int .i64 11, .int .i64 0, .string ByteArray.empty, .bool true, .slice none 0 0, .slice none 0 0, .slice none 0 0] rfl HGF.out.cells ?_)
  | (refine wl_store_struct rfl 102 _ _ rfl (cs:=#[.int .i64 11, .int .i64 0, .string ByteArray.empty, .bool true, .slice none 0 0, .slice none 0 0, .slice none 0 0]) rfl (w.heap.size + 1) rfl rfl 102 _ HGF.out rfl (by simp [Value.oneCell']) ?_))
 refine bodyPost_ret (results_cell_agg rfl _ _ rfl rfl (GX.row (cs':=[.int .i64 11, .int .i64 0, .string ByteArray.empty, .bool true, .slice none 0 0, .slice none 0 0, .slice none 0 0]) HGF.out)) rfl ?_
 have HKG2:=HKG.out.setRow (g:=w.heap.size + 1) (.inl (by simp)) #[.int .i64 11, .int .i64 0, .string ByteArray.empty, .bool true, .slice none 0 0, .slice none 0 0, .slice none 0 0]
 exact ⟨none, none, none, 0, 0, 0, rfl, ⟨SlIs.nil _ _ _, SlIs.nil _ _ _, SlIs.nil _ _ _, (fun _ e => by cases e), (fun _ e => by cases e), (fun _ e => by cases e)⟩, D.keepg _ _ _ _ _ HNG.out HA2.out HKG2, HKS.out.setRow (.inr (Nat.le_succ _)) _⟩
theorem get_11 {T : TypeId} {v : Value} {fl : Bool} {At : List UInt8 → List UInt8 → World → Prop} {S : List Nat} {raw : Nat} {own : Nat → Prop} (D : Dec T v fl At S raw own) (f : List UInt8) (hf : f.length ≤ 300) (A1 A2 A3 : Option Addr) (c1 c2 c3 : Nat) (w : World) (hown : ∀ g, own g → g < w.heap.size) (pre rest : List UInt8) (h : At pre (stepB fl ⟨11, 0, ByteArray.empty, false, f, [], []⟩ ++ rest) w) : Calls Tryz.prog 76 #[.iface T v, .agg (stCells (pat ⟨11, 0, ByteArray.empty, false, f, [], []⟩) A1 A2 A3 c1 c2 c3).toArray] w (GetR At S raw (got ⟨11, 0, ByteArray.empty, false, f, [], []⟩) (pre ++ stepB fl ⟨11, 0, ByteArray.empty, false, f, [], []⟩) rest w):=by
 have hng : ¬ own (w.heap.size + 1):=fun hm => by have:=hown _ hm; omega
 have hns : (w.heap.size + 1) ∉ S:=fun hm => hng (D.sub _ hm)
 have hraw : raw < w.heap.size:=hown _ D.rawo
 have HNG:=lh hng
 have HNS:=lh hns
 have HRAW:=lh hraw
 have HH:=lh h
 have heq:=fun (W : World) (a : Option Addr) (l c : Nat) => eq_nil W 34 5 Tryz.underlying34 a l c
 clear h hown hng hns hraw
 show Calls Tryz.prog 76 #[.iface T v, .agg #[.int .i64 11, .int .i64 (f.length : Nat), .string ByteArray.empty, .bool false, .slice A1 0 c1, .slice A2 0 c2, .slice A3 0 c3]] w _
 go_enter Tryz.func76, Tryz.ntmps76
 go_wp2_with (first
  | (refine wl_invoke rfl _ _ _ _ rfl T v rfl "getBytes" rfl [] (by simp [go_sem]) _ (D.bytes pre rest _ f hf (D.keep _ _ _ _ HH.out (((Kept.refl [] w).alloc _).alloc _))) ?_; rintro e w2 ⟨b1, cp, rfl, hsl, hbr, ha2, hk2⟩; refine ⟨_, rfl, ?_⟩; have HG2:=lh ((gx_new w _ [.int .i64 11, .int .i64 0, .string ByteArray.empty, .bool false, .slice none 0 0, .slice none 0 0, .slice none 0 0]).keep hk2 HNS.out); have HA2:=lh ha2; have HK2:=lh (((((Kept.refl S w).alloc _).alloc _)).trans hk2 (fun x hx => .inl hx)); have HSL:=lh (show SlIs w2 1 (some b1) f.length (Lib.byteCells f) from hsl); have HBR:=lh hbr; clear hsl hbr; have hc4:=HG2.out.cell 4 _ rfl; have hf4:=HG2.out.frozen 4; have hdd4:=(HG2.out.set 4 (.slice (some b1) f.length cp)).cell 4 _ rfl; have hd3:=(HG2.out.set 4 (.slice (some b1) f.length cp)).cell 3 _ rfl; have he3:=(HG2.out.set 4 (.slice (some b1) f.length cp)).frozen 3; have HGF:=lh ((HG2.out.set 4 (.slice (some b1) f.length cp)).set 3 (.bool false)); have HKG:=lh (((Kept.refl [w.heap.size + 1] w2).setCell (p:=⟨w.heap.size + 1, 4, none⟩) (.inl (by simp)) (.slice (some b1) f.length cp)).setCell (p:=⟨w.heap.size + 1, 3, none⟩) (.inl (by simp)) (.bool false)); have HKS:=lh ((HK2.out.setCell (p:=⟨w.heap.size + 1, 4, none⟩) (.inr (Nat.le_succ _)) (.slice (some b1) f.length cp)).setCell (p:=⟨w.heap.size + 1, 3, none⟩) (.inr (Nat.le_succ _)) (.bool false)); clear ha2 hk2)
  | (refine wl_load_struct rfl 102 _ rfl Tryz.underlying102 rfl rfl (w.heap.size + 1) 0 rfl [.int .i64 11, .int .i64 0, .string ByteArray.empty, .bool false, .slice (some b1) f.length cp, .slice none 0 0, .slice none 0 0] rfl HGF.out.cells ?_)
  | (refine wl_store_struct rfl 102 _ _ rfl (cs:=#[.int .i64 11, .int .i64 0, .string ByteArray.empty, .bool false, .slice (some b1) f.length cp, .slice none 0 0, .slice none 0 0]) rfl (w.heap.size + 1) rfl rfl 102 _ HGF.out rfl (by simp [Value.oneCell']) ?_))
 refine bodyPost_ret (results_cell_agg rfl _ _ rfl rfl (GX.row (cs':=[.int .i64 11, .int .i64 0, .string ByteArray.empty, .bool false, .slice (some b1) f.length cp, .slice none 0 0, .slice none 0 0]) HGF.out)) rfl ?_
 have HKG2:=HKG.out.setRow (g:=w.heap.size + 1) (.inl (by simp)) #[.int .i64 11, .int .i64 0, .string ByteArray.empty, .bool false, .slice (some b1) f.length cp, .slice none 0 0, .slice none 0 0]
 exact ⟨some b1, none, none, cp, 0, 0, rfl, ⟨(HSL.out.kept HKG2 (fun a e => by cases e; have h8:=HRAW.out; have h9:=HBR.out; simp; omega)), SlIs.nil _ _ _, SlIs.nil _ _ _, (fun a e _ => by cases e; exact .inl HBR.out), (fun _ e => by cases e), (fun _ e => by cases e)⟩, D.keepg _ _ _ _ _ HNG.out HA2.out HKG2, HKS.out.setRow (.inr (Nat.le_succ _)) _⟩
theorem get_12n {T : TypeId} {v : Value} {fl : Bool} {At : List UInt8 → List UInt8 → World → Prop} {S : List Nat} {raw : Nat} {own : Nat → Prop} (D : Dec T v fl At S raw own) (A1 A2 A3 : Option Addr) (c1 c2 c3 : Nat) (w : World) (hown : ∀ g, own g → g < w.heap.size) (pre rest : List UInt8) (h : At pre (stepB fl ⟨12, 0, ByteArray.empty, true, [], [], []⟩ ++ rest) w) : Calls Tryz.prog 76 #[.iface T v, .agg (stCells (pat ⟨12, 0, ByteArray.empty, true, [], [], []⟩) A1 A2 A3 c1 c2 c3).toArray] w (GetR At S raw (got ⟨12, 0, ByteArray.empty, true, [], [], []⟩) (pre ++ stepB fl ⟨12, 0, ByteArray.empty, true, [], [], []⟩) rest w):=by
 have hng : ¬ own (w.heap.size + 1):=fun hm => by have:=hown _ hm; omega
 have hns : (w.heap.size + 1) ∉ S:=fun hm => hng (D.sub _ hm)
 have hraw : raw < w.heap.size:=hown _ D.rawo
 have HNG:=lh hng
 have HNS:=lh hns
 have HRAW:=lh hraw
 have HH:=lh h
 have heq:=fun (W : World) (a : Option Addr) (l c : Nat) => eq_nil W 34 5 Tryz.underlying34 a l c
 clear h hown hng hns hraw
 show Calls Tryz.prog 76 #[.iface T v, .agg #[.int .i64 12, .int .i64 (0 : Nat), .string ByteArray.empty, .bool false, .slice A1 0 c1, .slice A2 0 c2, .slice A3 0 c3]] w _
 go_enter Tryz.func76, Tryz.ntmps76
 go_wp2_with (first
  | (refine wl_invoke rfl _ _ _ _ rfl T v rfl "getVarintBytes" rfl [] (by simp [go_sem]) _ (D.varnil pre rest _ (D.keep _ _ _ _ HH.out (((Kept.refl [] w).alloc _).alloc _))) ?_; rintro e w2 ⟨rfl, ha2, hk2⟩; refine ⟨_, rfl, ?_⟩; have HG2:=lh ((gx_new w _ [.int .i64 12, .int .i64 0, .string ByteArray.empty, .bool false, .slice none 0 0, .slice none 0 0, .slice none 0 0]).keep hk2 HNS.out); have HA2:=lh ha2; have HK2:=lh (((((Kept.refl S w).alloc _).alloc _)).trans hk2 (fun x hx => .inl hx)); have hc4:=HG2.out.cell 4 _ rfl; have hf4:=HG2.out.frozen 4; have hdd4:=(HG2.out.set 4 (.slice none 0 0)).cell 4 _ rfl; have hd3:=(HG2.out.set 4 (.slice none 0 0)).cell 3 _ rfl; have he3:=(HG2.out.set 4 (.slice none 0 0)).frozen 3; have HGF:=lh ((HG2.out.set 4 (.slice none 0 0)).set 3 (.bool true)); have HKG:=lh (((Kept.refl [w.heap.size + 1] w2).setCell (p:=⟨w.heap.size + 1, 4, none⟩) (.inl (by simp)) (.slice none 0 0)).setCell (p:=⟨w.heap.size + 1, 3, none⟩) (.inl (by simp)) (.bool true)); have HKS:=lh ((HK2.out.setCell (p:=⟨w.heap.size + 1, 4, none⟩) (.inr (Nat.le_succ _)) (.slice none 0 0)).setCell (p:=⟨w.heap.size + 1, 3, none⟩) (.inr (Nat.le_succ _)) (.bool true)); clear ha2 hk2)
  | (refine wl_load_struct rfl 102 _ rfl Tryz.underlying102 rfl rfl (w.heap.size + 1) 0 rfl [.int .i64 12, .int .i64 0, .string ByteArray.empty, .bool true, .slice none 0 0, .slice none 0 0, .slice none 0 0] rfl HGF.out.cells ?_)
  | (refine wl_store_struct rfl 102 _ _ rfl (cs:=#[.int .i64 12, .int .i64 0, .string ByteArray.empty, .bool true, .slice none 0 0, .slice none 0 0, .slice none 0 0]) rfl (w.heap.size + 1) rfl rfl 102 _ HGF.out rfl (by simp [Value.oneCell']) ?_))
 refine bodyPost_ret (results_cell_agg rfl _ _ rfl rfl (GX.row (cs':=[.int .i64 12, .int .i64 0, .string ByteArray.empty, .bool true, .slice none 0 0, .slice none 0 0, .slice none 0 0]) HGF.out)) rfl ?_
 have HKG2:=HKG.out.setRow (g:=w.heap.size + 1) (.inl (by simp)) #[.int .i64 12, .int .i64 0, .string ByteArray.empty, .bool true, .slice none 0 0, .slice none 0 0, .slice none 0 0]
 exact ⟨none, none, none, 0, 0, 0, rfl, ⟨SlIs.nil _ _ _, SlIs.nil _ _ _, SlIs.nil _ _ _, (fun _ e => by cases e), (fun _ e => by cases e), (fun _ e => by cases e)⟩, D.keepg _ _ _ _ _ HNG.out HA2.out HKG2, HKS.out.setRow (.inr (Nat.le_succ _)) _⟩
theorem get_12 {T : TypeId} {v : Value} {fl : Bool} {At : List UInt8 → List UInt8 → World → Prop} {S : List Nat} {raw : Nat} {own : Nat → Prop} (D : Dec T v fl At S raw own) (f : List UInt8) (hf : f.length ≤ 300) (A1 A2 A3 : Option Addr) (c1 c2 c3 : Nat) (w : World) (hown : ∀ g, own g → g < w.heap.size) (pre rest : List UInt8) (h : At pre (stepB fl ⟨12, 0, ByteArray.empty, false, f, [], []⟩ ++ rest) w) : Calls Tryz.prog 76 #[.iface T v, .agg (stCells (pat ⟨12, 0, ByteArray.empty, false, f, [], []⟩) A1 A2 A3 c1 c2 c3).toArray] w (GetR At S raw (got ⟨12, 0, ByteArray.empty, false, f, [], []⟩) (pre ++ stepB fl ⟨12, 0, ByteArray.empty, false, f, [], []⟩) rest w):=by
 have hng : ¬ own (w.heap.size + 1):=fun hm => by have:=hown _ hm; omega
 have hns : (w.heap.size + 1) ∉ S:=fun hm => hng (D.sub _ hm)
 have hraw : raw < w.heap.size:=hown _ D.rawo
 have HNG:=lh hng
 have HNS:=lh hns
 have HRAW:=lh hraw
 have HH:=lh h
 have heq:=fun (W : World) (a : Option Addr) (l c : Nat) => eq_nil W 34 5 Tryz.underlying34 a l c
 clear h hown hng hns hraw
 show Calls Tryz.prog 76 #[.iface T v, .agg #[.int .i64 12, .int .i64 (f.length : Nat), .string ByteArray.empty, .bool false, .slice A1 0 c1, .slice A2 0 c2, .slice A3 0 c3]] w _
 go_enter Tryz.func76, Tryz.ntmps76
 go_wp2_with (first
  | (refine wl_invoke rfl _ _ _ _ rfl T v rfl "getVarintBytes" rfl [] (by simp [go_sem]) _ (D.varbytes pre rest _ f hf (D.keep _ _ _ _ HH.out (((Kept.refl [] w).alloc _).alloc _))) ?_; rintro e w2 ⟨b1, cp, rfl, hsl, hbr, ha2, hk2⟩; refine ⟨_, rfl, ?_⟩; have HG2:=lh ((gx_new w _ [.int .i64 12, .int .i64 0, .string ByteArray.empty, .bool false, .slice none 0 0, .slice none 0 0, .slice none 0 0]).keep hk2 HNS.out); have HA2:=lh ha2; have HK2:=lh (((((Kept.refl S w).alloc _).alloc _)).trans hk2 (fun x hx => .inl hx)); have HSL:=lh (show SlIs w2 1 (some b1) f.length (Lib.byteCells f) from hsl); have HBR:=lh hbr; clear hsl hbr; have hc4:=HG2.out.cell 4 _ rfl; have hf4:=HG2.out.frozen 4; have hdd4:=(HG2.out.set 4 (.slice (some b1) f.length cp)).cell 4 _ rfl; have hd3:=(HG2.out.set 4 (.slice (some b1) f.length cp)).cell 3 _ rfl; have he3:=(HG2.out.set 4 (.slice (some b1) f.length cp)).frozen 3; have HGF:=lh ((HG2.out.set 4 (.slice (some b1) f.length cp)).set 3 (.bool false)); have HKG:=lh (((Kept.refl [w.heap.size + 1] w2).setCell (p:=⟨w.heap.size + 1, 4, none⟩) (.inl (by simp)) (.slice (some b1) f.length cp)).setCell (p:=⟨w.heap.size + 1, 3, none⟩) (.inl (by simp)) (.bool false)); have HKS:=lh ((HK2.out.setCell (p:=⟨w.heap.size + 1, 4, none⟩) (.inr (Nat.le_succ _)) (.slice (some b1) f.length cp)).setCell (p:=⟨w.heap.size + 1, 3, none⟩) (.inr (Nat.le_succ _)) (.bool false)); clear ha2 hk2)
  | (refine wl_load_struct rfl 102 _ rfl Tryz.underlying102 rfl rfl (w.heap.size + 1) 0 rfl [.int .i64 12, .int .i64 0, .string ByteArray.empty, .bool false, .slice (some b1) f.length cp, .slice none 0 0, .slice none 0 0] rfl HGF.out.cells ?_)
  | (refine wl_store_struct rfl 102 _ _ rfl (cs:=#[.int .i64 12, .int .i64 0, .string ByteArray.empty, .bool false, .slice (some b1) f.length cp, .slice none 0 0, .slice none 0 0]) rfl (w.heap.size + 1) rfl rfl 102 _ HGF.out rfl (by simp [Value.oneCell']) ?_))
 refine bodyPost_ret (results_cell_agg rfl _ _ rfl rfl (GX.row (cs':=[.int .i64 12, .int .i64 0, .string ByteArray.empty, .bool false, .slice (some b1) f.length cp, .slice none 0 0, .slice none 0 0]) HGF.out)) rfl ?_
 have HKG2:=HKG.out.setRow (g:=w.heap.size + 1) (.inl (by simp)) #[.int .i64 12, .int .i64 0, .string ByteArray.empty, .bool false, .slice (some b1) f.length cp, .slice none 0 0, .slice none 0 0]
 exact ⟨some b1, none, none, cp, 0, 0, rfl, ⟨(HSL.out.kept HKG2 (fun a e => by cases e; have h8:=HRAW.out; have h9:=HBR.out; simp; omega)), SlIs.nil _ _ _, SlIs.nil _ _ _, (fun a e _ => by cases e; exact .inl HBR.out), (fun _ e => by cases e), (fun _ e => by cases e)⟩, D.keepg _ _ _ _ _ HNG.out HA2.out HKG2, HKS.out.setRow (.inr (Nat.le_succ _)) _⟩
theorem get_13 {T : TypeId} {v : Value} {fl : Bool} {At : List UInt8 → List UInt8 → World → Prop} {S : List Nat} {raw : Nat} {own : Nat → Prop} (D : Dec T v fl At S raw own) (l : List ByteArray) (hl : l.length ≤ 10) (hs : ∀ s ∈ l, s.size ≤ 60) (A1 A2 A3 : Option Addr) (c1 c2 c3 : Nat) (w : World) (hown : ∀ g, own g → g < w.heap.size) (pre rest : List UInt8) (h : At pre (stepB fl ⟨13, 0, ByteArray.empty, false, [], l, []⟩ ++ rest) w) : Calls Tryz.prog 76 #[.iface T v, .agg (stCells (pat ⟨13, 0, ByteArray.empty, false, [], l, []⟩) A1 A2 A3 c1 c2 c3).toArray] w (GetR At S raw (got ⟨13, 0, ByteArray.empty, false, [], l, []⟩) (pre ++ stepB fl ⟨13, 0, ByteArray.empty, false, [], l, []⟩) rest w):=by
 have hng : ¬ own (w.heap.size + 1):=fun hm => by have:=hown _ hm; omega
 have hns : (w.heap.size + 1) ∉ S:=fun hm => hng (D.sub _ hm)
 have hraw : raw < w.heap.size:=hown _ D.rawo
 have HNG:=lh hng
 have HNS:=lh hns
 have HRAW:=lh hraw
 have HH:=lh h
 have HH : Hid (At pre (lenB fl (l.length : Int) 4 ++ (l.flatMap (textB fl) ++ rest)) w):=lh (by have h2:=h; rw [← List.append_assoc]; exact h2)
 clear h hown hng hns hraw
 show Calls Tryz.prog 76 #[.iface T v, .agg #[.int .i64 13, .int .i64 (0 : Nat), .string ByteArray.empty, .bool false, .slice A1 0 c1, .slice A2 0 c2, .slice A3 0 c3]] w _
 go_enter Tryz.func76, Tryz.ntmps76
 go_wp2_with (first
  | (refine wl_invoke rfl _ _ _ _ rfl T v rfl "getStringArray" rfl [] (by simp [go_sem]) _ ((D.texts pre rest _ l hl hs (D.keep _ _ _ _ HH.out (((Kept.refl [] w).alloc _).alloc _))).mono fun _ _ hp => dl_n hp (strs_len l)) ?_; rintro e w2 ⟨A9, cp, rfl, hsl, hge, ha2, hk2⟩; refine ⟨_, rfl, ?_⟩; have HG2:=lh ((gx_new w _ [.int .i64 13, .int .i64 0, .string ByteArray.empty, .bool false, .slice none 0 0, .slice none 0 0, .slice none 0 0]).keep hk2 HNS.out); have HA2:=lh ha2; have HK2:=lh (((((Kept.refl S w).alloc _).alloc _)).trans hk2 (fun x hx => .inl hx)); have HSL:=lh hsl; have HGE:=lh hge; clear hsl hge; have hc5:=HG2.out.cell 5 _ rfl; have hf5:=HG2.out.frozen 5; have HGF:=lh (HG2.out.set 5 (.slice A9 l.length cp)); have HKG:=lh ((Kept.refl [w.heap.size + 1] w2).setCell (p:=⟨w.heap.size + 1, 5, none⟩) (.inl (by simp)) (.slice A9 l.length cp)); have HKS:=lh (HK2.out.setCell (p:=⟨w.heap.size + 1, 5, none⟩) (.inr (Nat.le_succ _)) (.slice A9 l.length cp)); clear ha2 hk2)
  | (refine wl_load_struct rfl 102 _ rfl Tryz.underlying102 rfl rfl (w.heap.size + 1) 0 rfl [.int .i64 13, .int .i64 0, .string ByteArray.empty, .bool false, .slice none 0 0, .slice A9 l.length cp, .slice none 0 0] rfl HGF.out.cells ?_)
  | (refine wl_store_struct rfl 102 _ _ rfl (cs:=#[.int .i64 13, .int .i64 0, .string ByteArray.empty, .bool false, .slice none 0 0, .slice A9 l.length cp, .slice none 0 0]) rfl (w.heap.size + 1) rfl rfl 102 _ HGF.out rfl (by simp [Value.oneCell']) ?_))
 refine bodyPost_ret (results_cell_agg rfl _ _ rfl rfl (GX.row (cs':=[.int .i64 13, .int .i64 0, .string ByteArray.empty, .bool false, .slice none 0 0, .slice A9 l.length cp, .slice none 0 0]) HGF.out)) rfl ?_
 have HKG2:=HKG.out.setRow (g:=w.heap.size + 1) (.inl (by simp)) #[.int .i64 13, .int .i64 0, .string ByteArray.empty, .bool false, .slice none 0 0, .slice A9 l.length cp, .slice none 0 0]
 exact ⟨none, A9, none, 0, cp, 0, rfl, ⟨SlIs.nil _ _ _, (HSL.out.kept HKG2 (fun a e => by have h9:=HGE.out a e; rw [alloc_size, alloc_size] at h9; simp; omega)), SlIs.nil _ _ _, (fun _ e => by cases e), (fun a e _ => .inr (by have h9:=HGE.out a e; rw [alloc_size, alloc_size] at h9; omega)), (fun _ e => by cases e)⟩, D.keepg _ _ _ _ _ HNG.out HA2.out HKG2, HKS.out.setRow (.inr (Nat.le_succ _)) _⟩
theorem get_15 {T : TypeId} {v : Value} {fl : Bool} {At : List UInt8 → List UInt8 → World → Prop} {S : List Nat} {raw : Nat} {own : Nat → Prop} (D : Dec T v fl At S raw own) (l : List Int) (hl : l.length ≤ 10) (hs : ∀ x ∈ l, Num64 x) (A1 A2 A3 : Option Addr) (c1 c2 c3 : Nat) (w : World) (hown : ∀ g, own g → g < w.heap.size) (pre rest : List UInt8) (h : At pre (stepB fl ⟨15, 0, ByteArray.empty, false, [], [], l⟩ ++ rest) w) : Calls Tryz.prog 76 #[.iface T v, .agg (stCells (pat ⟨15, 0, ByteArray.empty, false, [], [], l⟩) A1 A2 A3 c1 c2 c3).toArray] w (GetR At S raw (got ⟨15, 0, ByteArray.empty, false, [], [], l⟩) (pre ++ stepB fl ⟨15, 0, ByteArray.empty, false, [], [], l⟩) rest w):=by
 have hng : ¬ own (w.heap.size + 1):=fun hm => by have:=hown _ hm; omega
 have hns : (w.heap.size + 1) ∉ S:=fun hm => hng (D.sub _ hm)
 have hraw : raw < w.heap.size:=hown _ D.rawo
 have HNG:=lh hng
 have HNS:=lh hns
 have HRAW:=lh hraw
 have HH:=lh h
 have HH : Hid (At pre (lenB fl (l.length : Int) 4 ++ (l.flatMap (big 8) ++ rest)) w):=lh (by have h2:=h; rw [← List.append_assoc]; exact h2)
 clear h hown hng hns hraw
 show Calls Tryz.prog 76 #[.iface T v, .agg #[.int .i64 15, .int .i64 (0 : Nat), .string ByteArray.empty, .bool false, .slice A1 0 c1, .slice A2 0 c2, .slice A3 0 c3]] w _
 go_enter Tryz.func76, Tryz.ntmps76
 go_wp2_with (first
  | (refine wl_invoke rfl _ _ _ _ rfl T v rfl "getInt64Array" rfl [] (by simp [go_sem]) _ ((D.i64s pre rest _ l hl hs (D.keep _ _ _ _ HH.out (((Kept.refl [] w).alloc _).alloc _))).mono fun _ _ hp => dl_n hp (List.length_map ..)) ?_; rintro e w2 ⟨A9, cp, rfl, hsl, hge, ha2, hk2⟩; refine ⟨_, rfl, ?_⟩; have HG2:=lh ((gx_new w _ [.int .i64 15, .int .i64 0, .string ByteArray.empty, .bool false, .slice none 0 0, .slice none 0 0, .slice none 0 0]).keep hk2 HNS.out); have HA2:=lh ha2; have HK2:=lh (((((Kept.refl S w).alloc _).alloc _)).trans hk2 (fun x hx => .inl hx)); have HSL:=lh hsl; have HGE:=lh hge; clear hsl hge; have hc6:=HG2.out.cell 6 _ rfl; have hf6:=HG2.out.frozen 6; have HGF:=lh (HG2.out.set 6 (.slice A9 l.length cp)); have HKG:=lh ((Kept.refl [w.heap.size + 1] w2).setCell (p:=⟨w.heap.size + 1, 6, none⟩) (.inl (by simp)) (.slice A9 l.length cp)); have HKS:=lh (HK2.out.setCell (p:=⟨w.heap.size + 1, 6, none⟩) (.inr (Nat.le_succ _)) (.slice A9 l.length cp)); clear ha2 hk2)
  | (refine wl_load_struct rfl 102 _ rfl Tryz.underlying102 rfl rfl (w.heap.size + 1) 0 rfl [.int .i64 15, .int .i64 0, .string ByteArray.empty, .bool false, .slice none 0 0, .slice none 0 0, .slice A9 l.length cp] rfl HGF.out.cells ?_)
  | (refine wl_store_struct rfl 102 _ _ rfl (cs:=#[.int .i64 15, .int .i64 0, .string ByteArray.empty, .bool false, .slice none 0 0, .slice none 0 0, .slice A9 l.length cp]) rfl (w.heap.size + 1) rfl rfl 102 _ HGF.out rfl (by simp [Value.oneCell']) ?_))
 refine bodyPost_ret (results_cell_agg rfl _ _ rfl rfl (GX.row (cs':=[.int .i64 15, .int .i64 0, .string ByteArray.empty, .bool false, .slice none 0 0, .slice none 0 0, .slice A9 l.length cp]) HGF.out)) rfl ?_
 have HKG2:=HKG.out.setRow (g:=w.heap.size + 1) (.inl (by simp)) #[.int .i64 15, .int .i64 0, .string ByteArray.empty, .bool false, .slice none 0 0, .slice none 0 0, .slice A9 l.length cp]
 exact ⟨none, none, A9, 0, 0, cp, rfl, ⟨SlIs.nil _ _ _, SlIs.nil _ _ _, (HSL.out.kept HKG2 (fun a e => by have h9:=HGE.out a e; rw [alloc_size, alloc_size] at h9; simp; omega)), (fun _ e => by cases e), (fun _ e => by cases e), (fun a e _ => .inr (by have h9:=HGE.out a e; rw [alloc_size, alloc_size] at h9; omega))⟩, D.keepg _ _ _ _ _ HNG.out HA2.out HKG2, HKS.out.setRow (.inr (Nat.le_succ _)) _⟩
theorem get_16 {T : TypeId} {v : Value} {fl : Bool} {At : List UInt8 → List UInt8 → World → Prop} {S : List Nat} {raw : Nat} {own : Nat → Prop} (D : Dec T v fl At S raw own) (f : List UInt8) (A1 A2 A3 : Option Addr) (c1 c2 c3 : Nat) (w : World) (hown : ∀ g, own g → g < w.heap.size) (pre rest : List UInt8) (h : At pre (stepB fl ⟨16, 0, ByteArray.empty, false, f, [], []⟩ ++ rest) w) : Calls Tryz.prog 76 #[.iface T v, .agg (stCells (pat ⟨16, 0, ByteArray.empty, false, f, [], []⟩) A1 A2 A3 c1 c2 c3).toArray] w (GetR At S raw (got ⟨16, 0, ByteArray.empty, false, f, [], []⟩) (pre ++ stepB fl ⟨16, 0, ByteArray.empty, false, f, [], []⟩) rest w):=by
 have hng : ¬ own (w.heap.size + 1):=fun hm => by have:=hown _ hm; omega
 have hns : (w.heap.size + 1) ∉ S:=fun hm => hng (D.sub _ hm)
 have hraw : raw < w.heap.size:=hown _ D.rawo
 have HNG:=lh hng
 have HNS:=lh hns
 have HRAW:=lh hraw
 have HH:=lh h
 have HNS0 : Hid (w.heap.size ∉ S):=lh (fun hm => by have:=hown _ (D.sub _ hm); omega)
 clear h hown hng hns hraw
 show Calls Tryz.prog 76 #[.iface T v, .agg #[.int .i64 16, .int .i64 (f.length : Nat), .string ByteArray.empty, .bool false, .slice A1 0 c1, .slice A2 0 c2, .slice A3 0 c3]] w _
 go_enter Tryz.func76, Tryz.ntmps76
 go_wp2_with (first
  | (refine wl_invoke rfl _ _ _ _ rfl T v rfl "getRawBytes" rfl [.int .i64 (f.length : Nat)] (by simp [go_sem]) _ (D.raw pre rest _ f (D.keep _ _ _ _ HH.out (((Kept.refl [] w).alloc _).alloc _))) ?_; rintro e w2 ⟨b1, cp, rfl, hsl, hbr, ha2, hk2⟩; refine ⟨_, rfl, ?_⟩; have HG2:=lh ((gx_new w _ [.int .i64 16, .int .i64 0, .string ByteArray.empty, .bool false, .slice none 0 0, .slice none 0 0, .slice none 0 0]).keep hk2 HNS.out); have HA2:=lh ha2; have HK2:=lh (((((Kept.refl S w).alloc _).alloc _)).trans hk2 (fun x hx => .inl hx)); have HSL:=lh (show SlIs w2 1 (some b1) f.length (Lib.byteCells f) from hsl); have HBR:=lh hbr; clear hsl hbr; have HZ1:=lh (box_cells (cs:=[.int .i64 16, .int .i64 (f.length : Nat), .string ByteArray.empty, .bool false, .slice A1 0 c1, .slice A2 0 c2, .slice A3 0 c3]) (T:=102) hk2 HNS0.out 1 _ rfl); have hz1 : (w2.setCell ⟨w.heap.size + 1, 4, none⟩ (.slice (some b1) f.length cp)).cell? ⟨w.heap.size, 1, none⟩ = some (.int .i64 (f.length : Nat)):=(by rw [World.cell?_setCell_other _ ⟨w.heap.size + 1, 4, none⟩ ⟨w.heap.size, 1, none⟩ _ (by simp)]; exact HZ1.out); have hc4:=HG2.out.cell 4 _ rfl; have hf4:=HG2.out.frozen 4; have hdd4:=(HG2.out.set 4 (.slice (some b1) f.length cp)).cell 4 _ rfl; have hd1:=(HG2.out.set 4 (.slice (some b1) f.length cp)).cell 1 _ rfl; have he1:=(HG2.out.set 4 (.slice (some b1) f.length cp)).frozen 1; have HGF:=lh ((HG2.out.set 4 (.slice (some b1) f.length cp)).set 1 (.int .i64 (f.length : Nat))); have HKG:=lh (((Kept.refl [w.heap.size + 1] w2).setCell (p:=⟨w.heap.size + 1, 4, none⟩) (.inl (by simp)) (.slice (some b1) f.length cp)).setCell (p:=⟨w.heap.size + 1, 1, none⟩) (.inl (by simp)) (.int .i64 (f.length : Nat))); have HKS:=lh ((HK2.out.setCell (p:=⟨w.heap.size + 1, 4, none⟩) (.inr (Nat.le_succ _)) (.slice (some b1) f.length cp)).setCell (p:=⟨w.heap.size + 1, 1, none⟩) (.inr (Nat.le_succ _)) (.int .i64 (f.length : Nat))); clear ha2 hk2)
  | (refine wl_load_struct rfl 102 _ rfl Tryz.underlying102 rfl rfl (w.heap.size + 1) 0 rfl [.int .i64 16, .int .i64 (f.length : Nat), .string ByteArray.empty, .bool false, .slice (some b1) f.length cp, .slice none 0 0, .slice none 0 0] rfl HGF.out.cells ?_)
  | (refine wl_store_struct rfl 102 _ _ rfl (cs:=#[.int .i64 16, .int .i64 (f.length : Nat), .string ByteArray.empty, .bool false, .slice (some b1) f.length cp, .slice none 0 0, .slice none 0 0]) rfl (w.heap.size + 1) rfl rfl 102 _ HGF.out rfl (by simp [Value.oneCell']) ?_))
 refine bodyPost_ret (results_cell_agg rfl _ _ rfl rfl (GX.row (cs':=[.int .i64 16, .int .i64 (f.length : Nat), .string ByteArray.empty, .bool false, .slice (some b1) f.length cp, .slice none 0 0, .slice none 0 0]) HGF.out)) rfl ?_
 have HKG2:=HKG.out.setRow (g:=w.heap.size + 1) (.inl (by simp)) #[.int .i64 16, .int .i64 (f.length : Nat), .string ByteArray.empty, .bool false, .slice (some b1) f.length cp, .slice none 0 0, .slice none 0 0]
 exact ⟨some b1, none, none, cp, 0, 0, rfl, ⟨(HSL.out.kept HKG2 (fun a e => by cases e; have h8:=HRAW.out; have h9:=HBR.out; simp; omega)), SlIs.nil _ _ _, SlIs.nil _ _ _, (fun a e _ => by cases e; exact .inl HBR.out), (fun _ e => by cases e), (fun _ e => by cases e)⟩, D.keepg _ _ _ _ _ HNG.out HA2.out HKG2, HKS.out.setRow (.inr (Nat.le_succ _)) _⟩
end Go.Proofs.YtmpjikihnmagoaaGreatDoor
