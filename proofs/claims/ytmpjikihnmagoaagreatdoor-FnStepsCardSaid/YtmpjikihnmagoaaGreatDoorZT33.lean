/-
  What ZZRead (47) reads. Conditions: the bytes are the data's form; the length of a list is no greater than what stands behind.
-/
import Derived.Test.YtmpjikihnmagoaaGreatDoorZT31
import Derived.Deep.WholeRow
import Derived.Test.YtmpjikihnmagoaaGreatDoorZT25
import Derived.Recover
import Derived.Defers
set_option maxRecDepth 100000
set_option maxHeartbeats 3200000
namespace Go.Proofs.YtmpjikihnmagoaaGreatDoor
open Go.RowKit
theorem stepsB_drop (fl : Bool) {l : List St} {j : Nat} {x : St} (h : l[j]? = some x) : stepsB fl (l.drop j) = stepB fl x ++ stepsB fl (l.drop (j + 1)):=flat_drop (stepB fl) h
theorem own_lt {w : World} {base : Nat} {e : TypeId} {s n : Nat} {v : Value} {xs : List Value} (h : w.ownsRow base e s v n xs) : ∀ g, v.ownBlock = some g → g < w.heap.size:=by
 intro g hg
 obtain ⟨A, c, rfl, _, h3⟩:=own_sl h
 cases A with
 | none => cases hg
 | some a =>
  have h4 : a.block = g:=by simpa [Value.ownBlock] using hg
  have h5:=(h3 a rfl).2
  omega
/-- What ZZRead leaves. -/
def ReadR (r : Nat) (l : List St) (n : Nat) (w : World) (e : Ending) (w' : World) : Prop:=∃ A' c', e = .returned (.tuple #[.slice A' n c', .int .i64 0]) ∧ StwAt (fun b => b = r ∨ w.heap.size ≤ b) w' A' (l.map got) ∧ Kept [] w w'
theorem read_false (w : World) (aa : Addr) (N cc : Nat) (A : Option Addr) (c : Nat) (l : List St) (hl : l.length ≤ 20) (hr : ∀ x ∈ l, RightB x) (h64 : ∀ x ∈ l, ∀ y ∈ x.nums, Num64 y) (harr : ∀ (i : Nat) x, l[i]? = some x → x.kind = 8 → x.n ≤ (stepsB false (l.drop (i + 1))).length) (haa : aa.block < w.heap.size) (hN : (stepsB false l).length = N) (hNc : N ≤ cc) (hb : SlIs w 1 (some aa) N (Lib.byteCells (stepsB false l))) (hA : StsAt (· < w.heap.size) w A (l.map pat)) : Calls Tryz.prog 47 #[.slice (some aa) N cc, .slice A l.length c, .bool false] w (ReadR aa.block l l.length w):=by
 obtain ⟨n, hn⟩ : ∃ n, l.length = n:=⟨_, rfl⟩
 have hcap:=stepsB_le false l hr
 have hN2 : N ≤ 20000:=by omega
 rw [hn] at hl ⊢
 have HN:=lh hn
 have HR:=lh hr
 have H64:=lh h64
 have HARR:=lh harr
 have HAA:=lh haa
 have HPA:=lh hA
 have HBS:=lh hb
 have HNN:=lh hN
 clear hn hr h64 harr hA hb hcap hN
 go_enter Tryz.func47, Tryz.ntmps47
 go_wp2
 obtain ⟨W, hW⟩ : ∃ W, (w.alloc (Obj.cells #[Value.slice (some aa) N cc, Value.int IntKind.i64 0, Value.slice none 0 0] 151)) = W:=⟨_, rfl⟩
 have hszW : W.heap.size = (w.heap.size + 1):=by rw [← hW, alloc_size]
 have HK : Hid (Kept [] w W):=lh (by rw [← hW]; exact (Kept.refl [] w).alloc _)
 have HAT : Hid (DecAt w.heap.size (some aa) cc (.slice none 0 0) ([]) (stepsB false l) W):=lh (by
  refine ⟨?_, (by rw [List.length_nil, Nat.zero_add, HNN.out]; exact HBS.out.kept0 (HK.out)), by simpa [HNN.out] using hNc, by simp [HNN.out]; omega, fun a e => by cases e; have:=HAA.out; omega⟩
  rw [← hW]
  have h2:=heap_alloc_new w (Obj.cells #[Value.slice (some aa) N cc, Value.int IntKind.i64 0, Value.slice none 0 0] 151)
  rw [h2]
  simp [HNN.out])
 rw [hW]
 have HOWN : Hid (∀ g, (fun g => g = w.heap.size ∨ g = aa.block) g → g < (w.heap.size + 1)):=lh (fun g hg => by have:=HAA.out; (try simp only at hg); omega)
 have hz0 : (w.heap.size + 1) ≤ W.heap.size:=by omega
 clear hW
 go_loopw [6, 26] (fun tv iv wr => ∃ j : Nat, j ≤ n ∧ iv = .int .i64 j ∧ ∃ q : List Sq, q.map Sq.x = (l.take j).map got ∧ q.length = j ∧ wr.ownsRow (w.heap.size + 1) 102 7 tv j (q.flatMap Sq.cells) ∧ (∀ s ∈ q, StW (fun b => (b = aa.block ∨ (w.heap.size + 1) ≤ b) ∧ b < wr.heap.size ∧ tv.ownBlock ≠ some b) wr s.x s.a1 s.a2 s.a3) ∧ DecAt w.heap.size (some aa) cc (.slice none 0 0) (stepsB false (l.take j)) (stepsB false (l.drop j)) wr ∧ Kept [] w wr ∧ (w.heap.size + 1) ≤ wr.heap.size) (fun _ iv _ => n - (intOf iv).toNat)
 case atStart => exact ⟨0, Nat.zero_le _, rfl, [], rfl, rfl, ⟨rfl, .inl ⟨rfl, rfl⟩⟩, (fun s hs => by cases hs), by simpa [stepsB] using HAT.out, HK.out, hz0⟩
 case round =>
  obtain ⟨j, hj, rfl, q, hq, hql, hor, hst, hat, hkr, hzr⟩:=hrel
  have HQ:=lh hq
  have HQL:=lh hql
  have HOR:=lh hor
  have HST:=lh hst
  have HATR:=lh hat
  have HKR:=lh hkr
  clear hq hql hor hst hat hkr
  by_cases hlt : j < n
  ·obtain ⟨x, hx⟩ : ∃ x, l[j]? = some x:=⟨_, List.getElem?_eq_getElem (by rw [HN.out]; exact hlt)⟩
   have hkl : StsAt (· < w.heap.size) wr A (l.map pat):=HPA.out.kept HKR.out (fun _ _ => by simp)
   obtain ⟨b, off, A1, A2, A3, c1, c2, c3, hAe, hcc, -⟩:=hkl.at (i:=j) (x:=pat x) (by simp [hx])
   subst hAe
   have HCC:=lh hcc
   have HX:=lh (HR.out x (List.mem_of_getElem? hx))
   have HX64:=lh (H64.out x (List.mem_of_getElem? hx))
   have HXA:=lh (HARR.out j x hx)
   have HTK:=lh (stepsB_take false hx)
   have HTK2:=lh (take_one hx)
   have HDR : Hid (DecAt w.heap.size (some aa) cc (.slice none 0 0) (stepsB false (l.take j)) (stepB false x ++ stepsB false (l.drop (j + 1))) wr):=lh (by rw [← stepsB_drop false hx]; exact HATR.out)
   clear hcc hkl hx
   go_wp2_with (first
    | (refine wl_load_struct rfl 102 _ rfl Tryz.underlying102 rfl rfl b (off + j * 7) rfl (stCells (pat x) A1 A2 A3 c1 c2 c3) rfl HCC.out ?_)
    | (refine wl_load_struct rfl 102 _ rfl Tryz.underlying102 rfl rfl wr.heap.size 0 rfl (stCells (pat x) A1 A2 A3 c1 c2 c3) rfl (new_cells wr (stCells (pat x) A1 A2 A3 c1 c2 c3) 102) ?_)
    | (refine wl_store_struct rfl 102 _ _ rfl (cs:=(stCells (pat x) A1 A2 A3 c1 c2 c3).toArray) rfl wr.heap.size rfl rfl 102 _ (heap_alloc_new wr _) rfl (st_ones (pat x) A1 A2 A3 c1 c2 c3) ?_; rw [World.setRow_alloc_new])
    | ((with_reducible refine (get_any (dec_real w.heap.size aa cc (.slice none 0 0)) x HX.out HX64.out A1 A2 A3 c1 c2 c3 _ (fun g hg => by rw [alloc_size]; have h9:=HOWN.out g hg; omega) (stepsB false (l.take j)) (stepsB false (l.drop (j + 1))) HXA.out ((dec_real w.heap.size aa cc (.slice none 0 0)).keep _ _ _ _ HDR.out ((Kept.refl [] _).alloc _))).mono ?_); rintro e w4 ⟨B1, B2, B3, d1, d2, d3, rfl, hsv, ha4, hk4⟩; have hsz4:=hk4.size; rw [alloc_size] at hsz4; have HSV:=lh hsv; have HA4:=lh ha4; have HK4:=lh hk4; clear hsv ha4 hk4)
    | (refine wl_store_struct rfl 102 _ _ rfl (cs:=(stCells (got x) B1 B2 B3 d1 d2 d3).toArray) rfl w4.heap.size rfl rfl 102 _ (heap_alloc_new w4 _) rfl (st_ones (got x) B1 B2 B3 d1 d2 d3) ?_; rw [World.setRow_alloc_new])
    | (refine wl_load_struct rfl 102 _ rfl Tryz.underlying102 rfl rfl w4.heap.size 0 rfl [.int .i64 (got x).kind, .int .i64 (got x).n, .string (got x).s, .bool (got x).null, .slice B1 (got x).b.length d1, .slice B2 (got x).texts.length d2, .slice B3 (got x).nums.length d3] rfl (new_cells w4 (stCells (got x) B1 B2 B3 d1 d2 d3) 102) ?_)
    | (at_builtin; refine wl_append rfl _ _ 97 rfl (w.heap.size + 1) 102 Tryz.underlying97 info102b rfl (by decide) u6 j (q.flatMap Sq.cells) rfl (own_kept0 (((own_kept0 HOR.out ((Kept.refl [] _).alloc _)) |> (fun h => HK4.out.own h (fun b hb => by have h9:=own_ge HOR.out b hb; simp; omega)))) (((Kept.refl [] _).alloc _).alloc _)) (some ⟨w4.heap.size + 1, 0, none⟩) 1 1 ([Sq.mk (got x) B1 B2 B3 d1 d2 d3].flatMap Sq.cells) rfl (seven_sl (w4.alloc (.cells (stCells (got x) B1 B2 B3 d1 d2 d3).toArray 102)) (Sq.mk (got x) B1 B2 B3 d1 d2 d3) (alloc_size _ _) 102) (sq_ones _) (by omega) (by omega) (by rw [alloc_size, alloc_size]; omega) ?_; intro v' w6 hown6 hk6 hat6; have HO6:=lh hown6; have HK6:=lh hk6; have HT6:=lh hat6; clear hown6 hk6 hat6))
   have h8a : aa.block < w.heap.size:=HAA.out
   have hk5 : Kept [] w4 ((w4.alloc (.cells (stCells (got x) B1 B2 B3 d1 d2 d3).toArray 102)).alloc (.cells (stCells (got x) B1 B2 B3 d1 d2 d3).toArray 102)):=((Kept.refl [] _).alloc _).alloc _
   have hsz6:=HK6.out.size
   rw [alloc_size, alloc_size] at hsz6
   have hUG : ∀ g, u6.ownBlock = some g → (w.heap.size + 1) ≤ g ∧ g < wr.heap.size:=fun g hg => ⟨own_ge HOR.out g hg, own_lt HOR.out g hg⟩
   go_roundw
   case rel =>
    refine ⟨j + 1, by omega, by go_num, q ++ [Sq.mk (got x) B1 B2 B3 d1 d2 d3], ?_, by rw [List.length_append, HQL.out]; rfl, ?_, ?_, ?_, ?_, by omega⟩
    ·rw [HTK2.out, List.map_append, List.map_append, HQ.out]
     rfl
    ·rw [List.flatMap_append]
     exact HO6.out
    ·intro s hs
     rcases List.mem_append.1 hs with hs | hs
     ·have hs0:=HST.out s hs
      have hs1:=(hs0.kept ((Kept.refl [] wr).alloc _) (fun _ _ => by simp)).kept HK4.out (fun b hb => by have h1:=hb.1; simp; omega)
      have hs2:=(hs1.kept hk5 (fun _ _ => by simp)).kept HK6.out (fun b hb hm => hb.2.2 (by simpa using hm))
      refine hs2.mono fun b hb => ⟨hb.1, by have h2:=hb.2.1; omega, fun he => ?_⟩
      rcases HT6.out with h7 | h7
      ·rw [h7] at he; exact hb.2.2 he
      ·rw [h7] at he
       have h3:=hb.2.1
       rw [alloc_size, alloc_size] at he
       have h4:=Option.some.inj he
       omega
     ·obtain rfl:=List.mem_singleton.1 hs
      have hs0:=StW.of HSV.out
      have hs2:=(hs0.kept hk5 (fun _ _ => by simp)).kept HK6.out (fun b hb hm => by
       have h3:=hUG b (by simpa using hm)
       have h1:=hb.1
       rw [alloc_size] at h1
       omega)
      refine hs2.mono fun b hb => ⟨?_, by have h2:=hb.2; omega, fun he => ?_⟩
      ·have h1:=hb.1
       rw [alloc_size] at h1
       omega
      ·rcases HT6.out with h7 | h7
       ·rw [h7] at he
        have h3:=hUG b he
        have h1:=hb.1
        rw [alloc_size] at h1
        omega
       ·rw [h7, alloc_size, alloc_size] at he
        have h4:=Option.some.inj he
        have h3:=hb.2
        omega
    ·rw [HTK.out]
     exact keepo (dec_real w.heap.size aa cc (.slice none 0 0)) (fun g hg ho => by have h3:=hUG g (by simpa using hg); have h9:=HAA.out; (try simp only at ho); omega) ((dec_real w.heap.size aa cc (.slice none 0 0)).keep _ _ _ _ HA4.out hk5) HK6.out
    ·exact (((HKR.out.alloc _).trans HK4.out (fun s hs => .inr (by have h9:=List.mem_singleton.1 hs; omega))).trans0 hk5).trans HK6.out (fun g hg => .inr (by have h3:=hUG g (by simpa using hg); omega))
   case measure => (simp [intOf]) <;> omega
  ·have e : l.take j = l:=List.take_of_length_le (by rw [HN.out]; omega)
   have e2 : l.drop j = []:=List.drop_eq_nil_of_le (by rw [HN.out]; omega)
   have ej : j = n:=by omega
   subst ej
   rw [e] at HQ
   rw [e, e2] at HATR
   clear e e2
   obtain ⟨A', c', hv', hsl', hge'⟩:=own_sl HOR.out
   subst hv'
   have HSL':=lh hsl'
   have HGE':=lh hge'
   clear hsl' hge'
   go_wp2_with ((refine wl_invoke rfl _ _ _ _ rfl 148 (.pointer (some ⟨w.heap.size, 0, none⟩)) rfl "remaining" rfl [] (by simp [go_sem]) _ ((dec_real w.heap.size aa cc (.slice none 0 0)).left _ _ _ HATR.out) ?_; rintro e w2 ⟨rfl, hk2⟩; refine ⟨_, rfl, ?_⟩; have HK2:=lh hk2; clear hk2))
   refine bodyPost_ret (results_tmp2 rfl _ _ _) rfl ?_
   refine ⟨A', c', by simp [stepsB], ⟨q, HQ.out, ?_, ?_, ?_⟩, HKR.out.trans0 HK2.out⟩
   ·rw [List.length_map, HN.out]
    exact HSL'.out.kept0 HK2.out
   ·exact fun a e _ => .inr (by have:=(HGE'.out a e).1; omega)
   ·exact fun s hs => ((HST.out s hs).kept HK2.out (fun _ _ => by simp)).mono (fun b hb => by rcases hb.1 with h | h; exact .inl h; exact .inr (by omega))
theorem read_true (w : World) (aa : Addr) (N cc : Nat) (A : Option Addr) (c : Nat) (l : List St) (hl : l.length ≤ 20) (hr : ∀ x ∈ l, RightB x) (h64 : ∀ x ∈ l, ∀ y ∈ x.nums, Num64 y) (harr : ∀ (i : Nat) x, l[i]? = some x → x.kind = 8 → x.n ≤ (stepsB true (l.drop (i + 1))).length) (haa : aa.block < w.heap.size) (hN : (stepsB true l).length = N) (hNc : N ≤ cc) (hb : SlIs w 1 (some aa) N (Lib.byteCells (stepsB true l))) (hA : StsAt (· < w.heap.size) w A (l.map pat)) : Calls Tryz.prog 47 #[.slice (some aa) N cc, .slice A l.length c, .bool true] w (ReadR aa.block l l.length w):=by
 obtain ⟨n, hn⟩ : ∃ n, l.length = n:=⟨_, rfl⟩
 have hcap:=stepsB_le true l hr
 have hN2 : N ≤ 20000:=by omega
 rw [hn] at hl ⊢
 have HN:=lh hn
 have HR:=lh hr
 have H64:=lh h64
 have HARR:=lh harr
 have HAA:=lh haa
 have HPA:=lh hA
 have HBS:=lh hb
 have HNN:=lh hN
 clear hn hr h64 harr hA hb hcap hN
 go_enter Tryz.func47, Tryz.ntmps47
 go_wp2
 obtain ⟨W, hW⟩ : ∃ W, (w.alloc (Obj.cells #[Value.slice (some aa) N cc, Value.int IntKind.i64 0, Value.slice none 0 0] 151)).alloc (Obj.cells #[Value.pointer (some ⟨w.heap.size, 0, none⟩)] 156) = W:=⟨_, rfl⟩
 have hszW : W.heap.size = (w.heap.size + 2):=by rw [← hW, alloc_size, alloc_size]
 have HK : Hid (Kept [] w W):=lh (by rw [← hW]; exact ((Kept.refl [] w).alloc _).alloc _)
 have HAT : Hid ((FlexAt 156 (w.heap.size + 1) w.heap.size W ∧ DecAt w.heap.size (some aa) cc (.slice none 0 0) ([]) (stepsB true l) W)):=lh (by
  have hq0 : W.heap[w.heap.size + 1]? = some (Obj.cells #[Value.pointer (some ⟨w.heap.size, 0, none⟩)] 156):=by
   rw [← hW]
   have h1:=heap_alloc_new (w.alloc (Obj.cells #[Value.slice (some aa) N cc, Value.int IntKind.i64 0, Value.slice none 0 0] 151)) (Obj.cells #[Value.pointer (some ⟨w.heap.size, 0, none⟩)] 156)
   rw [alloc_size] at h1
   exact h1
  refine ⟨⟨hq0, by omega⟩, ⟨?_, (by rw [List.length_nil, Nat.zero_add, HNN.out]; exact HBS.out.kept0 (HK.out)), by simpa [HNN.out] using hNc, by simp [HNN.out]; omega, fun a e => by cases e; have:=HAA.out; omega⟩⟩
  rw [← hW]
  have h2:=((Kept.refl [] _).alloc (Obj.cells #[Value.pointer (some ⟨w.heap.size, 0, none⟩)] 156)).heap (heap_alloc_new w (Obj.cells #[Value.slice (some aa) N cc, Value.int IntKind.i64 0, Value.slice none 0 0] 151)) (by simp)
  rw [h2]
  simp [HNN.out])
 rw [hW]
 have HOWN : Hid (∀ g, (fun g => g = w.heap.size ∨ g = (w.heap.size + 1) ∨ g = aa.block) g → g < (w.heap.size + 2)):=lh (fun g hg => by have:=HAA.out; (try simp only at hg); omega)
 have hz0 : (w.heap.size + 2) ≤ W.heap.size:=by omega
 clear hW
 go_loopw [6, 26] (fun tv iv wr => ∃ j : Nat, j ≤ n ∧ iv = .int .i64 j ∧ ∃ q : List Sq, q.map Sq.x = (l.take j).map got ∧ q.length = j ∧ wr.ownsRow (w.heap.size + 2) 102 7 tv j (q.flatMap Sq.cells) ∧ (∀ s ∈ q, StW (fun b => (b = aa.block ∨ (w.heap.size + 2) ≤ b) ∧ b < wr.heap.size ∧ tv.ownBlock ≠ some b) wr s.x s.a1 s.a2 s.a3) ∧ (FlexAt 156 (w.heap.size + 1) w.heap.size wr ∧ DecAt w.heap.size (some aa) cc (.slice none 0 0) (stepsB true (l.take j)) (stepsB true (l.drop j)) wr) ∧ Kept [] w wr ∧ (w.heap.size + 2) ≤ wr.heap.size) (fun _ iv _ => n - (intOf iv).toNat)
 case atStart => exact ⟨0, Nat.zero_le _, rfl, [], rfl, rfl, ⟨rfl, .inl ⟨rfl, rfl⟩⟩, (fun s hs => by cases hs), by simpa [stepsB] using HAT.out, HK.out, hz0⟩
 case round =>
  obtain ⟨j, hj, rfl, q, hq, hql, hor, hst, hat, hkr, hzr⟩:=hrel
  have HQ:=lh hq
  have HQL:=lh hql
  have HOR:=lh hor
  have HST:=lh hst
  have HATR:=lh hat
  have HKR:=lh hkr
  clear hq hql hor hst hat hkr
  by_cases hlt : j < n
  ·obtain ⟨x, hx⟩ : ∃ x, l[j]? = some x:=⟨_, List.getElem?_eq_getElem (by rw [HN.out]; exact hlt)⟩
   have hkl : StsAt (· < w.heap.size) wr A (l.map pat):=HPA.out.kept HKR.out (fun _ _ => by simp)
   obtain ⟨b, off, A1, A2, A3, c1, c2, c3, hAe, hcc, -⟩:=hkl.at (i:=j) (x:=pat x) (by simp [hx])
   subst hAe
   have HCC:=lh hcc
   have HX:=lh (HR.out x (List.mem_of_getElem? hx))
   have HX64:=lh (H64.out x (List.mem_of_getElem? hx))
   have HXA:=lh (HARR.out j x hx)
   have HTK:=lh (stepsB_take true hx)
   have HTK2:=lh (take_one hx)
   have HDR : Hid ((FlexAt 156 (w.heap.size + 1) w.heap.size wr ∧ DecAt w.heap.size (some aa) cc (.slice none 0 0) (stepsB true (l.take j)) (stepB true x ++ stepsB true (l.drop (j + 1))) wr)):=lh (by rw [← stepsB_drop true hx]; exact HATR.out)
   clear hcc hkl hx
   go_wp2_with (first
    | (refine wl_load_struct rfl 102 _ rfl Tryz.underlying102 rfl rfl b (off + j * 7) rfl (stCells (pat x) A1 A2 A3 c1 c2 c3) rfl HCC.out ?_)
    | (refine wl_load_struct rfl 102 _ rfl Tryz.underlying102 rfl rfl wr.heap.size 0 rfl (stCells (pat x) A1 A2 A3 c1 c2 c3) rfl (new_cells wr (stCells (pat x) A1 A2 A3 c1 c2 c3) 102) ?_)
    | (refine wl_store_struct rfl 102 _ _ rfl (cs:=(stCells (pat x) A1 A2 A3 c1 c2 c3).toArray) rfl wr.heap.size rfl rfl 102 _ (heap_alloc_new wr _) rfl (st_ones (pat x) A1 A2 A3 c1 c2 c3) ?_; rw [World.setRow_alloc_new])
    | ((with_reducible refine (get_any (dec_flex (w.heap.size + 1) w.heap.size aa cc (.slice none 0 0)) x HX.out HX64.out A1 A2 A3 c1 c2 c3 _ (fun g hg => by rw [alloc_size]; have h9:=HOWN.out g hg; omega) (stepsB true (l.take j)) (stepsB true (l.drop (j + 1))) HXA.out ((dec_flex (w.heap.size + 1) w.heap.size aa cc (.slice none 0 0)).keep _ _ _ _ HDR.out ((Kept.refl [] _).alloc _))).mono ?_); rintro e w4 ⟨B1, B2, B3, d1, d2, d3, rfl, hsv, ha4, hk4⟩; have hsz4:=hk4.size; rw [alloc_size] at hsz4; have HSV:=lh hsv; have HA4:=lh ha4; have HK4:=lh hk4; clear hsv ha4 hk4)
    | (refine wl_store_struct rfl 102 _ _ rfl (cs:=(stCells (got x) B1 B2 B3 d1 d2 d3).toArray) rfl w4.heap.size rfl rfl 102 _ (heap_alloc_new w4 _) rfl (st_ones (got x) B1 B2 B3 d1 d2 d3) ?_; rw [World.setRow_alloc_new])
    | (refine wl_load_struct rfl 102 _ rfl Tryz.underlying102 rfl rfl w4.heap.size 0 rfl [.int .i64 (got x).kind, .int .i64 (got x).n, .string (got x).s, .bool (got x).null, .slice B1 (got x).b.length d1, .slice B2 (got x).texts.length d2, .slice B3 (got x).nums.length d3] rfl (new_cells w4 (stCells (got x) B1 B2 B3 d1 d2 d3) 102) ?_)
    | (at_builtin; refine wl_append rfl _ _ 97 rfl (w.heap.size + 2) 102 Tryz.underlying97 info102b rfl (by decide) u6 j (q.flatMap Sq.cells) rfl (own_kept0 (((own_kept0 HOR.out ((Kept.refl [] _).alloc _)) |> (fun h => HK4.out.own h (fun b hb => by have h9:=own_ge HOR.out b hb; simp; omega)))) (((Kept.refl [] _).alloc _).alloc _)) (some ⟨w4.heap.size + 1, 0, none⟩) 1 1 ([Sq.mk (got x) B1 B2 B3 d1 d2 d3].flatMap Sq.cells) rfl (seven_sl (w4.alloc (.cells (stCells (got x) B1 B2 B3 d1 d2 d3).toArray 102)) (Sq.mk (got x) B1 B2 B3 d1 d2 d3) (alloc_size _ _) 102) (sq_ones _) (by omega) (by omega) (by rw [alloc_size, alloc_size]; omega) ?_; intro v' w6 hown6 hk6 hat6; have HO6:=lh hown6; have HK6:=lh hk6; have HT6:=lh hat6; clear hown6 hk6 hat6))
   have h8a : aa.block < w.heap.size:=HAA.out
   have hk5 : Kept [] w4 ((w4.alloc (.cells (stCells (got x) B1 B2 B3 d1 d2 d3).toArray 102)).alloc (.cells (stCells (got x) B1 B2 B3 d1 d2 d3).toArray 102)):=((Kept.refl [] _).alloc _).alloc _
   have hsz6:=HK6.out.size
   rw [alloc_size, alloc_size] at hsz6
   have hUG : ∀ g, u6.ownBlock = some g → (w.heap.size + 2) ≤ g ∧ g < wr.heap.size:=fun g hg => ⟨own_ge HOR.out g hg, own_lt HOR.out g hg⟩
   go_roundw
   case rel =>
    refine ⟨j + 1, by omega, by go_num, q ++ [Sq.mk (got x) B1 B2 B3 d1 d2 d3], ?_, by rw [List.length_append, HQL.out]; rfl, ?_, ?_, ?_, ?_, by omega⟩
    ·rw [HTK2.out, List.map_append, List.map_append, HQ.out]
     rfl
    ·rw [List.flatMap_append]
     exact HO6.out
    ·intro s hs
     rcases List.mem_append.1 hs with hs | hs
     ·have hs0:=HST.out s hs
      have hs1:=(hs0.kept ((Kept.refl [] wr).alloc _) (fun _ _ => by simp)).kept HK4.out (fun b hb => by have h1:=hb.1; simp; omega)
      have hs2:=(hs1.kept hk5 (fun _ _ => by simp)).kept HK6.out (fun b hb hm => hb.2.2 (by simpa using hm))
      refine hs2.mono fun b hb => ⟨hb.1, by have h2:=hb.2.1; omega, fun he => ?_⟩
      rcases HT6.out with h7 | h7
      ·rw [h7] at he; exact hb.2.2 he
      ·rw [h7] at he
       have h3:=hb.2.1
       rw [alloc_size, alloc_size] at he
       have h4:=Option.some.inj he
       omega
     ·obtain rfl:=List.mem_singleton.1 hs
      have hs0:=StW.of HSV.out
      have hs2:=(hs0.kept hk5 (fun _ _ => by simp)).kept HK6.out (fun b hb hm => by
       have h3:=hUG b (by simpa using hm)
       have h1:=hb.1
       rw [alloc_size] at h1
       omega)
      refine hs2.mono fun b hb => ⟨?_, by have h2:=hb.2; omega, fun he => ?_⟩
      ·have h1:=hb.1
       rw [alloc_size] at h1
       omega
      ·rcases HT6.out with h7 | h7
       ·rw [h7] at he
        have h3:=hUG b he
        have h1:=hb.1
        rw [alloc_size] at h1
        omega
       ·rw [h7, alloc_size, alloc_size] at he
        have h4:=Option.some.inj he
        have h3:=hb.2
        omega
    ·rw [HTK.out]
     exact keepo (dec_flex (w.heap.size + 1) w.heap.size aa cc (.slice none 0 0)) (fun g hg ho => by have h3:=hUG g (by simpa using hg); have h9:=HAA.out; (try simp only at ho); omega) ((dec_flex (w.heap.size + 1) w.heap.size aa cc (.slice none 0 0)).keep _ _ _ _ HA4.out hk5) HK6.out
    ·exact (((HKR.out.alloc _).trans HK4.out (fun s hs => .inr (by have h9:=List.mem_singleton.1 hs; omega))).trans0 hk5).trans HK6.out (fun g hg => .inr (by have h3:=hUG g (by simpa using hg); omega))
   case measure => (simp [intOf]) <;> omega
  ·have e : l.take j = l:=List.take_of_length_le (by rw [HN.out]; omega)
   have e2 : l.drop j = []:=List.drop_eq_nil_of_le (by rw [HN.out]; omega)
   have ej : j = n:=by omega
   subst ej
   rw [e] at HQ
   rw [e, e2] at HATR
   clear e e2
   obtain ⟨A', c', hv', hsl', hge'⟩:=own_sl HOR.out
   subst hv'
   have HSL':=lh hsl'
   have HGE':=lh hge'
   clear hsl' hge'
   go_wp2_with ((refine wl_invoke rfl _ _ _ _ rfl 154 (.pointer (some ⟨w.heap.size + 1, 0, none⟩)) rfl "remaining" rfl [] (by simp [go_sem]) _ ((dec_flex (w.heap.size + 1) w.heap.size aa cc (.slice none 0 0)).left _ _ _ HATR.out) ?_; rintro e w2 ⟨rfl, hk2⟩; refine ⟨_, rfl, ?_⟩; have HK2:=lh hk2; clear hk2))
   refine bodyPost_ret (results_tmp2 rfl _ _ _) rfl ?_
   refine ⟨A', c', by simp [stepsB], ⟨q, HQ.out, ?_, ?_, ?_⟩, HKR.out.trans0 HK2.out⟩
   ·rw [List.length_map, HN.out]
    exact HSL'.out.kept0 HK2.out
   ·exact fun a e _ => .inr (by have:=(HGE'.out a e).1; omega)
   ·exact fun s hs => ((HST.out s hs).kept HK2.out (fun _ _ => by simp)).mono (fun b hb => by rcases hb.1 with h | h; exact .inl h; exact .inr (by omega))
end Go.Proofs.YtmpjikihnmagoaaGreatDoor
/-
 The thin package's helpers: bytes copied (48), data handed over (49), a closure that ends (45). Conditions: few data.
-/
namespace Go.Proofs.YtmpjikihnmagoaaGreatDoor
open Go.RowKit
/-- What copied leaves. -/
def CopyR (n : Nat) (f : List UInt8) (w : World) (e : Ending) (w' : World) : Prop:=∃ a c, e = .returned (.slice (some a) n c) ∧ SlIs w' 1 (some a) n (Lib.byteCells f) ∧ w.heap.size ≤ a.block ∧ a.block < w'.heap.size ∧ n ≤ c ∧ Kept [] w w'
theorem own_cap {w : World} {base : Nat} {e : TypeId} {s n c : Nat} {A : Option Addr} {xs : List Value} (h : w.ownsRow base e s (.slice A n c) n xs) : n ≤ c:=by
 rcases h.2 with ⟨h1, _⟩ | ⟨g, cap, cur, h1, _, _, hnc, _⟩
 ·cases h1; exact Nat.le_refl _
 ·cases h1; exact hnc
theorem copied_any (w : World) (A : Option Addr) (n c : Nat) (f : List UInt8) (hf : f.length = n) (hn : n ≤ 1000000) (hA : SlIs w 1 A n (Lib.byteCells f)) : Calls Tryz.prog 48 #[.slice A n c] w (CopyR n f w):=by
 have HA:=lh hA
 have hlen : (Lib.byteCells f).length = n:=by rw [Lib.byteCells_length]; exact hf
 have hown0:=World.ownsRow_lit (base:=w.heap.size) (e:=5) (size:=1) w #[] 0 (Nat.le_refl _) (by decide) rfl
 have HOWN0:=lh hown0
 clear hA hown0 hlen
 go_enter Tryz.func48, Tryz.ntmps48
 go_wp2_with (at_builtin; refine wl_append rfl _ _ 34 rfl w.heap.size 5 Tryz.underlying34 info5b rfl (by decide) (.slice (some ⟨w.heap.size, 0, none⟩) 0 0) 0 [] rfl HOWN0.out A n c (Lib.byteCells f) rfl (HA.out.kept0 ((Kept.refl _ _).alloc _)) (bytes_one f) (by omega) (by omega) (by rw [alloc_size]; omega) ?_; intro v1 w1 hown hk1 hat; rw [Nat.zero_add, List.nil_append] at hown; have HO:=lh hown; have HK:=lh (((Kept.refl [] w).alloc (.cells #[] 5)).trans hk1 (fun x hx => .inr (by have h9 : x = w.heap.size:=List.mem_singleton.1 hx; omega))); have HAT:=lh (own_grown (v:=Value.slice (some ⟨w.heap.size, 0, none⟩) 0 0) rfl hat); clear hown hk1 hat)
 obtain ⟨a1, d1, rfl, hsl, hge, hlt1⟩:=own_some HO.out HAT.out
 go_ret
 exact ⟨a1, d1, rfl, hsl, hge, hlt1, own_cap HO.out, HK.out⟩
/-- What steps leaves. -/
def StepsR (l : List St) (n : Nat) (w : World) (e : Ending) (w' : World) : Prop:=∃ A' c', e = .returned (.slice A' n c') ∧ StsAt (· < w'.heap.size) w' A' l ∧ Kept [] w w'
theorem lt_kept {w w' : World} (h : Kept [] w w') : ∀ b, b < w.heap.size → b < w'.heap.size:=fun b hb => by have:=h.size; omega
theorem steps_any (w : World) (A : Option Addr) (c : Nat) (l : List St) (hl : l.length ≤ 1000) (hA : StsAt (· < w.heap.size) w A l) : Calls Tryz.prog 49 #[.slice A l.length c] w (StepsR l l.length w):=by
 obtain ⟨n, hn⟩ : ∃ n, l.length = n:=⟨_, rfl⟩
 rw [hn] at hl ⊢
 have HN:=lh hn
 have HA:=lh hA
 clear hn hA
 go_enter Tryz.func49, Tryz.ntmps49
 go_wp2
 go_loopw [3, 8] (fun tv iv wr => ∃ j : Nat, j ≤ n ∧ iv = .int .i64 j ∧ ∃ q : List Sq, q.map Sq.x = l.take j ∧ q.length = j ∧ wr.ownsRow w.heap.size 102 7 tv j (q.flatMap Sq.cells) ∧ (∀ s ∈ q, StV (· < w.heap.size) w s.x s.a1 s.a2 s.a3) ∧ Kept [] w wr) (fun _ iv _ => n - (intOf iv).toNat)
 case atStart => exact ⟨0, Nat.zero_le _, rfl, [], rfl, rfl, ⟨rfl, .inl ⟨rfl, rfl⟩⟩, (fun s hs => by cases hs), Kept.refl _ _⟩
 case round =>
  obtain ⟨j, hj, rfl, q, hq, hql, hor, hst, hkr⟩:=hrel
  have HQ:=lh hq
  have HQL:=lh hql
  have HOR:=lh hor
  have HST:=lh hst
  have HKR:=lh hkr
  have hzr:=hkr.size
  clear hq hql hor hst hkr
  by_cases hlt : j < n
  ·obtain ⟨x, hx⟩ : ∃ x, l[j]? = some x:=⟨_, List.getElem?_eq_getElem (by rw [HN.out]; exact hlt)⟩
   obtain ⟨b, off, A1, A2, A3, c1, c2, c3, hAe, hcc0, hstv⟩:=HA.out.at hx
   subst hAe
   have hcc : ∀ j' v, [.int .i64 x.kind, .int .i64 x.n, .string x.s, .bool x.null, .slice A1 x.b.length c1, .slice A2 x.texts.length c2, .slice A3 x.nums.length c3][j']? = some v → wr.cell? ⟨b, off + j * 7 + j', none⟩ = some v:=fun j' v hv => HKR.out.cell (hcc0 j' v hv) (by simp)
   have HCC:=lh hcc
   have HSV:=lh hstv
   have HTK:=lh (take_one hx)
   clear hcc hcc0 hstv hx
   go_wp2_with (first
    | (refine wl_load_struct rfl 46 _ rfl Tryz.underlying46 rfl rfl b (off + j * 7) rfl [.int .i64 x.kind, .int .i64 x.n, .string x.s, .bool x.null, .slice A1 x.b.length c1, .slice A2 x.texts.length c2, .slice A3 x.nums.length c3] rfl HCC.out ?_)
    | (refine wl_store_struct rfl 46 _ _ rfl (cs:=#[.int .i64 x.kind, .int .i64 x.n, .string x.s, .bool x.null, .slice A1 x.b.length c1, .slice A2 x.texts.length c2, .slice A3 x.nums.length c3]) rfl wr.heap.size rfl rfl 46 _ (heap_alloc_new wr _) rfl (by simp [Value.oneCell']) ?_; rw [World.setRow_alloc_new])
    | (at_builtin; refine wl_append rfl _ _ 97 rfl w.heap.size 102 Tryz.underlying97 info102b rfl (by decide) u3 j (q.flatMap Sq.cells) rfl (own_kept0 HOR.out (((Kept.refl _ _).alloc _).alloc _)) (some ⟨wr.heap.size + 1, 0, none⟩) 1 1 ([(Sq.mk x A1 A2 A3 c1 c2 c3)].flatMap Sq.cells) rfl (seven_sl (wr.alloc (.cells #[.int .i64 x.kind, .int .i64 x.n, .string x.s, .bool x.null, .slice A1 x.b.length c1, .slice A2 x.texts.length c2, .slice A3 x.nums.length c3] 46)) (Sq.mk x A1 A2 A3 c1 c2 c3) (alloc_size _ _) 102) (sq_ones _) (by omega) (by omega) (by rw [alloc_size, alloc_size]; omega) ?_; intro v' w6 hown6 hk6 hat6; have HO6:=lh hown6; have HK6:=lh (((HKR.out.alloc (.cells #[.int .i64 x.kind, .int .i64 x.n, .string x.s, .bool x.null, .slice A1 x.b.length c1, .slice A2 x.texts.length c2, .slice A3 x.nums.length c3] 46)).alloc (.cells #[.int .i64 x.kind, .int .i64 x.n, .string x.s, .bool x.null, .slice A1 x.b.length c1, .slice A2 x.texts.length c2, .slice A3 x.nums.length c3] 102)).trans hk6 (fun x hx => .inr (by have h9:=own_ge HOR.out x (by simpa using hx); omega))); clear hown6 hk6 hat6))
   go_roundw
   case rel =>
    refine ⟨j + 1, by omega, by go_num, q ++ [(Sq.mk x A1 A2 A3 c1 c2 c3)], ?_, by rw [List.length_append, HQL.out]; rfl, ?_, ?_, HK6.out⟩
    ·rw [HTK.out, List.map_append, HQ.out]
     rfl
    ·rw [List.flatMap_append]
     exact HO6.out
    ·intro s hs
     rcases List.mem_append.1 hs with hs | hs
     ·exact HST.out s hs
     ·obtain rfl:=List.mem_singleton.1 hs
      exact HSV.out
   case measure => (simp [intOf]) <;> omega
  ·have e : l.take j = l:=List.take_of_length_le (by rw [HN.out]; omega)
   have ej : j = n:=by omega
   subst ej
   rw [e] at HQ
   obtain ⟨A', c', hv', hsl', hge'⟩:=own_sl HOR.out
   subst hv'
   have HSL':=lh hsl'
   have HGE':=lh hge'
   clear e hsl' hge'
   go_wp2
   go_ret
   refine ⟨A', c', rfl, ⟨q, HQ.out, ?_, ?_, ?_⟩, HKR.out⟩
   ·rw [HN.out]; exact HSL'.out
   ·exact fun a e => (HGE'.out a e).2
   ·exact fun s hs => ((HST.out s hs).kept HKR.out (fun _ _ => by simp)).mono (lt_kept HKR.out)
theorem safe_deferred (p : Addr) (x : Value) (w : World) (hc : w.cell? p = some x) (hz : w.frozen? p = false) :
  CallsD Tryz.prog 75 #[.pointer (some p)] .returning w fun e u' w' =>
   e = .returned (.tuple #[]) ∧ u' = .returning ∧ w' = w.setCell p (.bool true):=by
 refine callsD_of_wpS Tryz.func75 rfl fun c₀ cs hu => ?_
 apply wpS_region
 simp [wpOpsS, go_sem, recoverD, hu, Tryz.ntmps75, hc, hz]
 cases c₀
 simp_all [bodyPostS, results, Tryz.results75]
/-- safe of a closure that ends. -/
theorem safe_any (G : FuncId) (caps : Array Value) (w : World) (R : World → Prop)
  (hcf : ∀ W, (callFunc G caps).run Tryz.prog W = .ok (.enter G caps) W)
  (hG : Calls Tryz.prog G caps (w.alloc (.cells #[.bool false] 4)) fun e W' => e = .returned (.tuple #[]) ∧ R W')
  (hR : ∀ W', R W' → W'.heap[w.heap.size]? = some (.cells #[.bool false] 4 (0, 0))) :
  Calls Tryz.prog 45 #[.func (.func G) #[] caps] w fun e w' => e = .returned (.bool true) ∧ ∃ W', R W' ∧ Kept [w.heap.size] W' w':=by
 have hmf : ∀ (fn : Fn) (first cap : Array Value) (w : World), (Instr.makeFunc fn first cap).run Tryz.prog w = .ok (.func fn first cap) w:=fun _ _ _ _ => rfl
 have HG:=lh hG
 have HR:=lh hR
 clear hG hR
 go_enter_defers Tryz.func45, Tryz.ntmps45
 go_wp2_with (with_reducible refine HG.out.mono ?_; rintro e w1 ⟨rfl, h1⟩; have hh:=HR.out w1 h1; have hc1 : w1.cell? ⟨w.heap.size, 0, none⟩ = some (.bool false):=(by simp [World.cell?, hh]); have hf1 : w1.frozen? ⟨w.heap.size, 0, none⟩ = false:=(by simp [World.frozen?, hh]); have H1:=lh h1; clear h1)
 refine leaves_cons (f:=75) (args:=#[.pointer (some ⟨w.heap.size, 0, none⟩)]) (by simp) (by simp [go_sem]) ?_
 have hh2:=heap_setCell_same w1 w.heap.size 0 _ 4 (.bool true) hh
 have hcc : (w1.setCell ⟨w.heap.size, 0, none⟩ (.bool true)).cell? ⟨w.heap.size, 0, none⟩ = some (.bool true):=by simp [World.cell?, hh2]
 have hff : (w1.setCell ⟨w.heap.size, 0, none⟩ (.bool true)).frozen? ⟨w.heap.size, 0, none⟩ = false:=by simp [World.frozen?, hh2]
 refine (safe_deferred ⟨w.heap.size, 0, none⟩ (.bool true) _ hcc hff).mono ?_
 rintro e u' w'' ⟨rfl, rfl, rfl⟩
 have hh3:=heap_setCell_same (w1.setCell ⟨w.heap.size, 0, none⟩ (.bool true)) w.heap.size 0 _ 4 (.bool true) hh2
 have hc3 : ((w1.setCell ⟨w.heap.size, 0, none⟩ (.bool true)).setCell ⟨w.heap.size, 0, none⟩ (.bool true)).cell? ⟨w.heap.size, 0, none⟩ = some (.bool true):=by simp [World.cell?, hh3]
 simp [Leaves, settle, results, Tryz.results45, go_sem, hc3]
 exact ⟨w1, H1.out, ((Kept.refl _ _).setCell (.inl (by simp)) _).setCell (.inl (by simp)) _⟩
end Go.Proofs.YtmpjikihnmagoaaGreatDoor
