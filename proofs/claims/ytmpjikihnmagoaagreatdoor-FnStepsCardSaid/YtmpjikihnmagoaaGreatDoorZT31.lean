/-
  A datum is read (76), kind by kind. Conditions: the bytes at hand begin with its form.
-/
import Derived.Test.YtmpjikihnmagoaaGreatDoorZT27
import Derived.Test.YtmpjikihnmagoaaGreatDoorZT21
import Derived.Test.YtmpjikihnmagoaaGreatDoorZT29
import Derived.Test.YtmpjikihnmagoaaGreatDoorZT30
set_option maxRecDepth 100000
set_option maxHeartbeats 3200000
namespace Go.Proofs.YtmpjikihnmagoaaGreatDoor
open Go.RowKit
theorem info2b : (Tryz.prog.info? 2).map (fun i => (i.zero, i.size, i.bytes)) = some (some (.int .i64 0), 1, 8):=by kernel_rfl
theorem slis_lt1 {w : World} {A : Option Addr} {n : Nat} {xs : List Value} {a : Addr} (h : SlIs w 1 A n xs) (hn : 0 < n) (ha : A = some a) : a.block < w.heap.size:=by
 obtain ⟨b, off, hA, hc⟩:=h.2.2 hn
 have hl:=h.1
 have h1:=hc 0 _ (List.getElem?_eq_getElem (by omega))
 rw [ha] at hA
 cases hA
 exact cell_lt h1
theorem keepo {T : TypeId} {v : Value} {fl : Bool} {At : List UInt8 → List UInt8 → World → Prop} {S : List Nat} {raw : Nat} {own : Nat → Prop} (D : Dec T v fl At S raw own) {q : Option Nat} (hq : ∀ x ∈ q.toList, ¬ own x) {pre rest : List UInt8} {w w' : World} (h : At pre rest w) (k : Kept q.toList w w') : At pre rest w':=by
 cases q with
 | none => exact D.keep _ _ _ _ h k
 | some g => exact D.keepg _ _ _ _ g (hq g (by simp)) h k
theorem get_14 {T : TypeId} {v : Value} {fl : Bool} {At : List UInt8 → List UInt8 → World → Prop} {S : List Nat} {raw : Nat} {own : Nat → Prop} (D : Dec T v fl At S raw own) (l : List Int) (hl : l.length ≤ 10) (hs : ∀ x ∈ l, Num32 x) (A1 A2 A3 : Option Addr) (c1 c2 c3 : Nat) (w : World) (hown : ∀ g, own g → g < w.heap.size) (pre rest : List UInt8) (h : At pre (stepB fl ⟨14, 0, ByteArray.empty, false, [], [], l⟩ ++ rest) w) : Calls Tryz.prog 76 #[.iface T v, .agg (stCells (pat ⟨14, 0, ByteArray.empty, false, [], [], l⟩) A1 A2 A3 c1 c2 c3).toArray] w (GetR At S raw (got ⟨14, 0, ByteArray.empty, false, [], [], l⟩) (pre ++ stepB fl ⟨14, 0, ByteArray.empty, false, [], [], l⟩) rest w):=by
 have hng : ¬ own (w.heap.size + 1):=fun hm => by have:=hown _ hm; omega
 have hns : (w.heap.size + 1) ∉ S:=fun hm => hng (D.sub _ hm)
 have hraw : raw < w.heap.size:=hown _ D.rawo
 have HNG:=lh hng
 have HNS:=lh hns
 have HRAW:=lh hraw
 have HH:=lh h
 have HH : Hid (At pre (lenB fl (l.length : Int) 4 ++ (l.flatMap (big 4) ++ rest)) w):=lh (by have h2:=h; rw [← List.append_assoc]; exact h2)
 have HOWNL:=lh hown
 clear h hown hng hns hraw
 show Calls Tryz.prog 76 #[.iface T v, .agg #[.int .i64 14, .int .i64 (0 : Nat), .string ByteArray.empty, .bool false, .slice A1 0 c1, .slice A2 0 c2, .slice A3 0 c3]] w _
 go_enter Tryz.func76, Tryz.ntmps76
 go_wp2_with (first
  | (refine wl_invoke rfl _ _ _ _ rfl T v rfl "getInt32Array" rfl [] (by simp [go_sem]) _ ((D.i32s pre rest _ l hl hs (D.keep _ _ _ _ HH.out (((Kept.refl [] w).alloc _).alloc _))).mono fun _ _ hp => dl_n hp (List.length_map ..)) ?_; rintro e w2 ⟨A9, cp, rfl, hsl, hge, ha2, hk2⟩; refine ⟨_, rfl, ?_⟩; have HG2:=lh ((gx_new w _ [.int .i64 14, .int .i64 0, .string ByteArray.empty, .bool false, .slice none 0 0, .slice none 0 0, .slice none 0 0]).keep hk2 HNS.out); have HA2:=lh ha2; have HK2:=lh (((((Kept.refl S w).alloc _).alloc _)).trans hk2 (fun x hx => .inl hx)); have HSL:=lh hsl; have HGE:=lh hge; clear hsl hge; have HGF:=lh HG2.out; have HKG:=lh (Kept.refl [w.heap.size + 1] w2); have HKS:=lh HK2.out; clear ha2 hk2))
 obtain ⟨n, hn⟩ : ∃ n, l.length = n:=⟨_, rfl⟩
 have hl2:=hl
 rw [hn] at hl2 HSL
 rw [hn]
 have HN:=lh hn
 have HS32:=lh hs
 have hzw : w.heap.size + 2 ≤ w2.heap.size:=by
  have h9:=HK2.out.size
  have h8:=(Array.getElem?_eq_some_iff.1 HG2.out).1
  omega
 obtain ⟨zz, hzz⟩ : ∃ zz, w2.heap.size = zz:=⟨_, rfl⟩
 have hA9 : ∀ a, 0 < n → A9 = some a → a.block < zz:=fun a h0 ha => by
  subst ha
  have h9:=slis_lt1 HSL.out h0 rfl
  omega
 have HA9:=lh hA9
 have HZZ : Hid (w.heap.size + 2 ≤ zz):=lh (by omega)
 have hz0 : zz ≤ w2.heap.size:=by omega
 have HAG : Hid (∀ a, A9 = some a → w.heap.size + 2 ≤ a.block):=lh (fun a e => by have h9:=HGE.out a e; rw [alloc_size, alloc_size] at h9; omega)
 clear hn hs hl hA9 hzw hzz HGF HKG HKS HGE
 go_loopw [173] (fun iv wr => ∃ j : Nat, j ≤ n ∧ iv = .int .i64 j ∧ ∃ u, GX wr (w.heap.size + 1) [.int .i64 14, .int .i64 0, .string ByteArray.empty, .bool false, .slice none 0 0, .slice none 0 0, u] ∧ wr.ownsRow zz 2 1 u j ((l.take j).map (Value.int .i64)) ∧ At (pre ++ stepB fl ⟨14, 0, ByteArray.empty, false, [], [], l⟩) rest wr ∧ Kept S w wr ∧ SlIs wr 1 A9 n (l.map (Value.int .i32)) ∧ zz ≤ wr.heap.size) (fun iv _ => n - (intOf iv).toNat)
 case atStart => exact ⟨0, Nat.zero_le _, rfl, _, HG2.out, ⟨rfl, .inl ⟨rfl, rfl⟩⟩, HA2.out, HK2.out, HSL.out, hz0⟩
 case round =>
  obtain ⟨j, hj, rfl, uu, hgx, hor, hat, hkr, hslr, hzr⟩:=hrel
  have HGX:=lh hgx
  have HOR:=lh hor
  have HATR:=lh hat
  have HKR:=lh hkr
  have HSLR:=lh hslr
  clear hgx hor hat hkr hslr
  by_cases hlt : j < n
  ·obtain ⟨b3, off3, hAe, hcc⟩:=HSLR.out.2.2 (by omega)
   obtain ⟨y, hy⟩ : ∃ y, l[j]? = some y:=⟨_, List.getElem?_eq_getElem (by rw [HN.out]; exact hlt)⟩
   have HBZ:=lh (HA9.out _ (by omega) hAe)
   subst hAe
   have hcell : wr.cell? ⟨b3, off3 + j, none⟩ = some (.int .i32 y):=hcc j _ (by simp [hy])
   have hc6:=HGX.out.cell 6 _ rfl
   have hcv : wrap64 y = y:=IntWalk.wrap64_in _ (by have:=HS32.out y (List.mem_of_getElem? hy); simp only [Num32, fitsB] at this; omega)
   have HTK:=lh (take_one hy)
   clear hcc hy
   go_wp2_with (at_builtin; refine wl_append rfl _ _ 44 rfl zz 2 Tryz.underlying44 info2b rfl (by decide) uu j _ rfl (own_kept0 HOR.out ((Kept.refl _ _).alloc _)) (some ⟨wr.heap.size, 0, none⟩) 1 1 [.int .i64 y] rfl (one_sl2 _ _ _ rfl) (by simp [Value.oneCell']) (by omega) (by omega) (by rw [alloc_size]; omega) ?_; intro v' w4 hown4 hk4 hat4; obtain ⟨A5, d5, rfl, _, _⟩:=own_sl hown4; have HOWN4:=lh hown4; have HUG:=lh (fun x (hx : x ∈ uu.ownBlock.toList) => own_ge HOR.out x (by simpa using hx)); have HG4:=lh ((HGX.out.keep ((Kept.refl [] _).alloc _) (by simp)).keep hk4 (fun hm => by have h9:=HUG.out _ hm; have h8:=HZZ.out; omega)); have hd6:=HG4.out.cell 6 _ rfl; have hf6:=HG4.out.frozen 6; have HK4:=lh ((HKR.out.alloc (.cells #[.int .i64 y] 2)).trans hk4 (fun x hx => .inr (by have h9:=HUG.out x hx; have h8:=HZZ.out; omega))); have HA4:=lh (keepo D (fun x hx => by intro ho; have h9:=HUG.out x hx; have h8:=HZZ.out; have h7:=HOWNL.out x ho; omega) (D.keep _ _ _ _ HATR.out ((Kept.refl [] _).alloc _)) hk4); have HSL4:=lh ((HSLR.out.kept0 ((Kept.refl [] _).alloc _)).kept hk4 (fun a e => by cases e; intro hm; have h9 : zz ≤ b3:=HUG.out _ hm; have h8 : b3 < zz:=HBZ.out; omega)); have hzr4 : zz ≤ w4.heap.size:=(by have h9:=hk4.size; rw [alloc_size] at h9; omega); clear hown4 hk4 hat4)
   go_roundw
   case rel =>
    refine ⟨j + 1, by omega, by go_num, _, HG4.out.set 6 (.slice A5 (j + 1) d5), ?_, D.keepg _ _ _ _ _ HNG.out HA4.out (kept_one _ _ _ _), HK4.out.setCell (.inr (Nat.le_succ _)) _, ?_, ?_⟩
    ·rw [HTK.out, List.map_append]
     exact (kept_one w4 (w.heap.size + 1) 6 (.slice A5 (j + 1) d5)).own HOWN4.out (fun b hb => by have h9:=own_ge HOWN4.out b hb; have h8:=HZZ.out; simp; omega)
    ·exact HSL4.out.kept (kept_one _ _ _ _) (fun a e => by cases e; have h9 : w.heap.size + 2 ≤ b3:=HAG.out _ rfl; simp; omega)
    ·have h9:=(kept_one w4 (w.heap.size + 1) 6 (.slice A5 (j + 1) d5)).size
     omega
   case measure => (simp [intOf]) <;> omega
  ·have e : l.take j = l:=List.take_of_length_le (by rw [HN.out]; omega)
   have ej : j = n:=by omega
   subst ej
   rw [e] at HOR
   obtain ⟨A3', c3', hv3, hsl3, hge3⟩:=own_sl HOR.out
   subst hv3
   have HSL3:=lh hsl3
   have HGE3:=lh hge3
   have HGF:=lh HGX.out
   clear e hsl3 hge3
   go_wp2_with (first
  | (refine wl_load_struct rfl 102 _ rfl Tryz.underlying102 rfl rfl (w.heap.size + 1) 0 rfl [.int .i64 14, .int .i64 0, .string ByteArray.empty, .bool false, .slice none 0 0, .slice none 0 0, .slice A3' j c3'] rfl HGF.out.cells ?_)
  | (refine wl_store_struct rfl 102 _ _ rfl (cs:=#[.int .i64 14, .int .i64 0, .string ByteArray.empty, .bool false, .slice none 0 0, .slice none 0 0, .slice A3' j c3']) rfl (w.heap.size + 1) rfl rfl 102 _ HGF.out rfl (by simp [Value.oneCell']) ?_))
   refine bodyPost_ret (results_cell_agg rfl _ _ rfl rfl (GX.row (cs':=[.int .i64 14, .int .i64 0, .string ByteArray.empty, .bool false, .slice none 0 0, .slice none 0 0, .slice A3' j c3']) HGF.out)) rfl ?_
   have HKR2:=(kept_row wr (w.heap.size + 1) #[.int .i64 14, .int .i64 0, .string ByteArray.empty, .bool false, .slice none 0 0, .slice none 0 0, .slice A3' j c3'])
   have hln:=HN.out
   subst hln
   exact ⟨none, none, A3', 0, 0, c3', rfl, ⟨SlIs.nil _ _ _, SlIs.nil _ _ _, HSL3.out.kept HKR2 (fun a e => by have h9:=HGE3.out a e; have h8:=HZZ.out; simp; omega), (fun _ e => by cases e), (fun _ e => by cases e), (fun a e _ => .inr (by have h9:=HGE3.out a e; have h8:=HZZ.out; omega))⟩, D.keepg _ _ _ _ _ HNG.out HATR.out HKR2, HKR.out.setRow (.inr (Nat.le_succ _)) _⟩
end Go.Proofs.YtmpjikihnmagoaaGreatDoor
/-
 A datum is read, whatever its kind (76). Conditions: the bytes at hand begin with its form.
-/
namespace Go.Proofs.YtmpjikihnmagoaaGreatDoor
open Go.RowKit
theorem get_any {T : TypeId} {v : Value} {fl : Bool} {At : List UInt8 → List UInt8 → World → Prop} {S : List Nat} {raw : Nat} {own : Nat → Prop} (D : Dec T v fl At S raw own) (x : St) (hx : RightB x) (h64 : ∀ y ∈ x.nums, Num64 y) (A1 A2 A3 : Option Addr) (c1 c2 c3 : Nat) (w : World) (hown : ∀ g, own g → g < w.heap.size) (pre rest : List UInt8) (hnr : x.kind = 8 → x.n ≤ rest.length) (h : At pre (stepB fl x ++ rest) w) : Calls Tryz.prog 76 #[.iface T v, .agg (stCells (pat x) A1 A2 A3 c1 c2 c3).toArray] w (GetR At S raw (got x) (pre ++ stepB fl x) rest w):=by
 obtain ⟨kind, n, s, null, b, texts, nums⟩:=x
 have hk:=hx.kind
 have hi:=hx.i64
 simp only at hk hi hnr h64
 have h17 : kind = 0 ∨ kind = 1 ∨ kind = 2 ∨ kind = 3 ∨ kind = 4 ∨ kind = 5 ∨ kind = 6 ∨ kind = 7 ∨ kind = 8 ∨ kind = 9 ∨ kind = 10 ∨ kind = 11 ∨ kind = 12 ∨ kind = 13 ∨ kind = 14 ∨ kind = 15 ∨ kind = 16:=by omega
 rcases h17 with e | e | e | e | e | e | e | e | e | e | e | e | e | e | e | e | e
 all_goals subst e
 ·have e0 : null = false:=by
   cases null with
   | false => rfl
   | true => exact absurd (hx.null rfl).1 (by simp)
  subst e0
  obtain rfl : s = ByteArray.empty:=size0 (hx.text (by simp))
  obtain rfl : b = []:=hx.bytes (by simp)
  obtain rfl : texts = []:=hx.texts (by simp)
  obtain rfl : nums = []:=hx.nums (by simp)
  exact get_0 D n (hx.f8 rfl) A1 A2 A3 c1 c2 c3 w hown pre rest h
 ·have e0 : null = false:=by
   cases null with
   | false => rfl
   | true => exact absurd (hx.null rfl).1 (by simp)
  subst e0
  obtain rfl : s = ByteArray.empty:=size0 (hx.text (by simp))
  obtain rfl : b = []:=hx.bytes (by simp)
  obtain rfl : texts = []:=hx.texts (by simp)
  obtain rfl : nums = []:=hx.nums (by simp)
  exact get_1 D n (hx.f16 rfl) A1 A2 A3 c1 c2 c3 w hown pre rest h
 ·have e0 : null = false:=by
   cases null with
   | false => rfl
   | true => exact absurd (hx.null rfl).1 (by simp)
  subst e0
  obtain rfl : s = ByteArray.empty:=size0 (hx.text (by simp))
  obtain rfl : b = []:=hx.bytes (by simp)
  obtain rfl : texts = []:=hx.texts (by simp)
  obtain rfl : nums = []:=hx.nums (by simp)
  exact get_2 D n (hx.f32 rfl) A1 A2 A3 c1 c2 c3 w hown pre rest h
 ·have e0 : null = false:=by
   cases null with
   | false => rfl
   | true => exact absurd (hx.null rfl).1 (by simp)
  subst e0
  obtain rfl : s = ByteArray.empty:=size0 (hx.text (by simp))
  obtain rfl : b = []:=hx.bytes (by simp)
  obtain rfl : texts = []:=hx.texts (by simp)
  obtain rfl : nums = []:=hx.nums (by simp)
  exact get_3 D n hi A1 A2 A3 c1 c2 c3 w hown pre rest h
 ·have e0 : null = false:=by
   cases null with
   | false => rfl
   | true => exact absurd (hx.null rfl).1 (by simp)
  subst e0
  obtain rfl : s = ByteArray.empty:=size0 (hx.text (by simp))
  obtain rfl : b = []:=hx.bytes (by simp)
  obtain rfl : texts = []:=hx.texts (by simp)
  obtain rfl : nums = []:=hx.nums (by simp)
  exact get_4 D n hi A1 A2 A3 c1 c2 c3 w hown pre rest h
 ·have e0 : null = false:=by
   cases null with
   | false => rfl
   | true => exact absurd (hx.null rfl).1 (by simp)
  subst e0
  obtain rfl : s = ByteArray.empty:=size0 (hx.text (by simp))
  obtain rfl : b = []:=hx.bytes (by simp)
  obtain rfl : texts = []:=hx.texts (by simp)
  obtain rfl : nums = []:=hx.nums (by simp)
  exact get_5 D n hi A1 A2 A3 c1 c2 c3 w hown pre rest h
 ·have e0 : null = false:=by
   cases null with
   | false => rfl
   | true => exact absurd (hx.null rfl).1 (by simp)
  subst e0
  obtain rfl : s = ByteArray.empty:=size0 (hx.text (by simp))
  obtain rfl : b = []:=hx.bytes (by simp)
  obtain rfl : texts = []:=hx.texts (by simp)
  obtain rfl : nums = []:=hx.nums (by simp)
  exact get_6 D n hi A1 A2 A3 c1 c2 c3 w hown pre rest h
 ·have e0 : null = false:=by
   cases null with
   | false => rfl
   | true => exact absurd (hx.null rfl).1 (by simp)
  subst e0
  obtain rfl : s = ByteArray.empty:=size0 (hx.text (by simp))
  obtain rfl : b = []:=hx.bytes (by simp)
  obtain rfl : texts = []:=hx.texts (by simp)
  obtain rfl : nums = []:=hx.nums (by simp)
  rcases hx.bool rfl with e2 | e2
  ·simp only at e2
   subst e2
   exact get_7_0 D A1 A2 A3 c1 c2 c3 w hown pre rest h
  ·simp only at e2
   subst e2
   exact get_7_1 D A1 A2 A3 c1 c2 c3 w hown pre rest h
 ·have e0 : null = false:=by
   cases null with
   | false => rfl
   | true => exact absurd (hx.null rfl).1 (by simp)
  subst e0
  obtain rfl : s = ByteArray.empty:=size0 (hx.text (by simp))
  obtain rfl : b = []:=hx.bytes (by simp)
  obtain rfl : texts = []:=hx.texts (by simp)
  obtain rfl : nums = []:=hx.nums (by simp)
  exact get_8 D n (hx.arr rfl).1 (hx.arr rfl).2 A1 A2 A3 c1 c2 c3 w hown pre rest (hnr rfl) h
 ·have e0 : null = false:=by
   cases null with
   | false => rfl
   | true => exact absurd (hx.null rfl).1 (by simp)
  subst e0
  obtain rfl : b = []:=hx.bytes (by simp)
  obtain rfl : texts = []:=hx.texts (by simp)
  obtain rfl : nums = []:=hx.nums (by simp)
  obtain rfl : n = 0:=hx.num (by simp)
  exact get_9 D s (by have:=hx.s200; simp only at this; omega) A1 A2 A3 c1 c2 c3 w hown pre rest h
 ·obtain rfl : texts = []:=hx.texts (by simp)
  obtain rfl : nums = []:=hx.nums (by simp)
  obtain rfl : n = 0:=hx.num (by simp)
  cases null with
  | true =>
   obtain rfl : b = []:=hx.bytes (by simp)
   obtain rfl : s = ByteArray.empty:=size0 (hx.null rfl).2.1
   exact get_10n D A1 A2 A3 c1 c2 c3 w hown pre rest h
  | false =>
   obtain rfl : b = []:=hx.bytes (by simp)
   exact get_10 D s (by have:=hx.s200; simp only at this; omega) A1 A2 A3 c1 c2 c3 w hown pre rest h
 ·obtain rfl : texts = []:=hx.texts (by simp)
  obtain rfl : nums = []:=hx.nums (by simp)
  obtain rfl : n = 0:=hx.num (by simp)
  cases null with
  | true =>
   obtain rfl : s = ByteArray.empty:=size0 (hx.text (by simp))
   obtain rfl : b = []:=(hx.null rfl).2.2
   exact get_11n D A1 A2 A3 c1 c2 c3 w hown pre rest h
  | false =>
   obtain rfl : s = ByteArray.empty:=size0 (hx.text (by simp))
   exact get_11 D b hx.b300 A1 A2 A3 c1 c2 c3 w hown pre rest h
 ·obtain rfl : texts = []:=hx.texts (by simp)
  obtain rfl : nums = []:=hx.nums (by simp)
  obtain rfl : n = 0:=hx.num (by simp)
  cases null with
  | true =>
   obtain rfl : s = ByteArray.empty:=size0 (hx.text (by simp))
   obtain rfl : b = []:=(hx.null rfl).2.2
   exact get_12n D A1 A2 A3 c1 c2 c3 w hown pre rest h
  | false =>
   obtain rfl : s = ByteArray.empty:=size0 (hx.text (by simp))
   exact get_12 D b hx.b300 A1 A2 A3 c1 c2 c3 w hown pre rest h
 ·have e0 : null = false:=by
   cases null with
   | false => rfl
   | true => exact absurd (hx.null rfl).1 (by simp)
  subst e0
  obtain rfl : s = ByteArray.empty:=size0 (hx.text (by simp))
  obtain rfl : b = []:=hx.bytes (by simp)
  obtain rfl : nums = []:=hx.nums (by simp)
  obtain rfl : n = 0:=hx.num (by simp)
  exact get_13 D texts hx.t10 hx.t60 A1 A2 A3 c1 c2 c3 w hown pre rest h
 ·have e0 : null = false:=by
   cases null with
   | false => rfl
   | true => exact absurd (hx.null rfl).1 (by simp)
  subst e0
  obtain rfl : s = ByteArray.empty:=size0 (hx.text (by simp))
  obtain rfl : b = []:=hx.bytes (by simp)
  obtain rfl : texts = []:=hx.texts (by simp)
  obtain rfl : n = 0:=hx.num (by simp)
  exact get_14 D nums hx.n10 (hx.n32 rfl) A1 A2 A3 c1 c2 c3 w hown pre rest h
 ·have e0 : null = false:=by
   cases null with
   | false => rfl
   | true => exact absurd (hx.null rfl).1 (by simp)
  subst e0
  obtain rfl : s = ByteArray.empty:=size0 (hx.text (by simp))
  obtain rfl : b = []:=hx.bytes (by simp)
  obtain rfl : texts = []:=hx.texts (by simp)
  obtain rfl : n = 0:=hx.num (by simp)
  exact get_15 D nums hx.n10 h64 A1 A2 A3 c1 c2 c3 w hown pre rest h
 ·have e0 : null = false:=by
   cases null with
   | false => rfl
   | true => exact absurd (hx.null rfl).1 (by simp)
  subst e0
  obtain rfl : s = ByteArray.empty:=size0 (hx.text (by simp))
  obtain rfl : texts = []:=hx.texts (by simp)
  obtain rfl : nums = []:=hx.nums (by simp)
  obtain rfl : n = 0:=hx.num (by simp)
  exact get_16 D b A1 A2 A3 c1 c2 c3 w hown pre rest h
/-- What a datum's cells point to; X: of the blocks of what is not empty. -/
structure StW (X : Nat → Prop) (w : World) (x : St) (A1 A2 A3 : Option Addr) : Prop where
 b : SlIs w 1 A1 x.b.length (Lib.byteCells x.b)
 t : SlIs w 1 A2 x.texts.length (strs x.texts)
 n : SlIs w 1 A3 x.nums.length (x.nums.map (Value.int .i64))
 xb : ∀ a, A1 = some a → 0 < x.b.length → X a.block
 xt : ∀ a, A2 = some a → 0 < x.texts.length → X a.block
 xn : ∀ a, A3 = some a → 0 < x.nums.length → X a.block
theorem StW.of {X : Nat → Prop} {w : World} {x : St} {A1 A2 A3 : Option Addr} (h : StV X w x A1 A2 A3) : StW (fun b => X b ∧ b < w.heap.size) w x A1 A2 A3 :=
 ⟨h.b, h.t, h.n, fun a e h0 => ⟨h.xb a e h0, slis_lt1 h.b h0 e⟩, fun a e h0 => ⟨h.xt a e h0, slis_lt1 h.t h0 e⟩, fun a e h0 => ⟨h.xn a e h0, slis_lt1 h.n h0 e⟩⟩
theorem slis_kept {S : List Nat} {w w' : World} {s n : Nat} {A : Option Addr} {xs : List Value} (h : SlIs w s A n xs) (k : Kept S w w') (hX : ∀ a, A = some a → 0 < n → a.block ∉ S) : SlIs w' s A n xs:=by
 refine ⟨h.1, h.2.1, fun hn => ?_⟩
 obtain ⟨b, off, hA, hc⟩:=h.2.2 hn
 exact ⟨b, off, hA, fun i v hv => k.cell (hc i v hv) (hX ⟨b, off, none⟩ hA hn)⟩
theorem StW.kept {X : Nat → Prop} {S : List Nat} {w w' : World} {x : St} {A1 A2 A3 : Option Addr} (h : StW X w x A1 A2 A3) (k : Kept S w w') (hX : ∀ b, X b → b ∉ S) : StW X w' x A1 A2 A3 :=
 ⟨slis_kept h.b k fun a e h0 => hX _ (h.xb a e h0), slis_kept h.t k fun a e h0 => hX _ (h.xt a e h0), slis_kept h.n k fun a e h0 => hX _ (h.xn a e h0), h.xb, h.xt, h.xn⟩
theorem StW.mono {X Y : Nat → Prop} {w : World} {x : St} {A1 A2 A3 : Option Addr} (h : StW X w x A1 A2 A3) (hX : ∀ b, X b → Y b) : StW Y w x A1 A2 A3:=⟨h.b, h.t, h.n, fun a e h0 => hX _ (h.xb a e h0), fun a e h0 => hX _ (h.xt a e h0), fun a e h0 => hX _ (h.xn a e h0)⟩
/-- Data in a row; X: of the blocks of what is not empty. -/
def StwAt (X : Nat → Prop) (w : World) (A : Option Addr) (l : List St) : Prop :=
 ∃ q : List Sq, q.map Sq.x = l ∧ SlIs w 7 A l.length (q.flatMap Sq.cells) ∧ (∀ a, A = some a → 0 < l.length → X a.block) ∧ ∀ s ∈ q, StW X w s.x s.a1 s.a2 s.a3
theorem StwAt.kept {X : Nat → Prop} {S : List Nat} {w w' : World} {A : Option Addr} {l : List St} (h : StwAt X w A l) (k : Kept S w w') (hX : ∀ b, X b → b ∉ S) : StwAt X w' A l:=by
 obtain ⟨q, h1, h2, h3, h4⟩:=h
 exact ⟨q, h1, slis_kept h2 k fun a e h0 => hX _ (h3 a e h0), h3, fun s hs => (h4 s hs).kept k hX⟩
theorem StwAt.mono {X Y : Nat → Prop} {w : World} {A : Option Addr} {l : List St} (h : StwAt X w A l) (hX : ∀ b, X b → Y b) : StwAt Y w A l:=by
 obtain ⟨q, h1, h2, h3, h4⟩:=h
 exact ⟨q, h1, h2, fun a e h0 => hX _ (h3 a e h0), fun s hs => (h4 s hs).mono hX⟩
theorem StV.w {X : Nat → Prop} {w : World} {x : St} {A1 A2 A3 : Option Addr} (h : StV X w x A1 A2 A3) : StW X w x A1 A2 A3:=⟨h.b, h.t, h.n, h.xb, h.xt, h.xn⟩
theorem StsAt.w {X : Nat → Prop} {w : World} {A : Option Addr} {l : List St} (h : StsAt X w A l) : StwAt X w A l:=by
 obtain ⟨q, h1, h2, h3, h4⟩:=h
 exact ⟨q, h1, h2, fun a e _ => h3 a e, fun s hs => (h4 s hs).w⟩
theorem StwAt.at {X : Nat → Prop} {w : World} {A : Option Addr} {l : List St} (h : StwAt X w A l) {i : Nat} {x : St} (hi : l[i]? = some x) : ∃ b off A1 A2 A3 c1 c2 c3, A = some ⟨b, off, none⟩ ∧ X b ∧ (∀ j v, (stCells x A1 A2 A3 c1 c2 c3)[j]? = some v → w.cell? ⟨b, off + i * 7 + j, none⟩ = some v) ∧ StW X w x A1 A2 A3:=by
 obtain ⟨q, h1, h2, h3, h4⟩:=h
 have hlt:=(List.getElem?_eq_some_iff.1 hi).1
 obtain ⟨b, off, hA, hc⟩:=h2.2.2 (by omega)
 rw [← h1, List.getElem?_map] at hi
 obtain ⟨s, hs, rfl⟩:=Option.map_eq_some_iff.1 hi
 refine ⟨b, off, s.a1, s.a2, s.a3, s.c1, s.c2, s.c3, hA, h3 _ hA (by omega), fun j v hv => ?_, h4 s (List.mem_of_getElem? hs)⟩
 have hj : j < 7:=by
  have:=(List.getElem?_eq_some_iff.1 hv).1
  exact this
 rw [Nat.add_assoc]
 refine hc _ _ ?_
 rw [flat_get Sq.cells 7 Sq.len (by decide) q i j hj, hs]
 exact hv
theorem info102b : (Tryz.prog.info? 102).map (fun i => (i.zero, i.size, i.bytes)) = some (some (.agg #[.int .i64 0, .int .i64 0, .string ByteArray.empty, .bool false, .slice none 0 0, .slice none 0 0, .slice none 0 0]), 7, 112):=by kernel_rfl
theorem seven_sl (w : World) (s : Sq) {n : Nat} (h : w.heap.size = n) (T : TypeId) : SlIs (w.alloc (.cells s.cells.toArray T)) 7 (some ⟨n, 0, none⟩) 1 ([s].flatMap Sq.cells):=by
 subst h
 have e : [s].flatMap Sq.cells = s.cells:=by simp
 rw [e]
 exact ⟨rfl, by omega, fun _ => ⟨_, _, rfl, fun i u hu => new_cells w s.cells T i u hu⟩⟩
theorem sq_ones (q : List Sq) : ∀ u ∈ q.flatMap Sq.cells, u.oneCell' = true:=by
 intro u hu
 obtain ⟨s, _, hs⟩:=List.mem_flatMap.1 hu
 simp [Sq.cells, stCells] at hs
 rcases hs with h | h | h | h | h | h | h <;> (subst h; rfl)
end Go.Proofs.YtmpjikihnmagoaaGreatDoor
