/-
  A length ahead of a record, as a varint (303 to 308). Conditions: the field lies in a record; small lengths.
-/
import Derived.Test.YtmpjikihnmagoaaGreatDoorZT51
import Derived.Test.YtmpjikihnmagoaaGreatDoorZT27
set_option maxRecDepth 100000
set_option maxHeartbeats 3200000
namespace Go.Proofs.YtmpjikihnmagoaaGreatDoor
open Go.RowKit
theorem uv0 : Lib.uvarint (Lib.zigzag 0) = [0]:=by first | kernel_rfl | decide | (simp [Lib.uvarint, Lib.zigzag])
theorem uv7 : Lib.uvarint (Lib.zigzag 7) = [14]:=by first | kernel_rfl | decide | (simp [Lib.uvarint, Lib.zigzag])
theorem uv1 : Lib.uvarint (Lib.zigzag 1) = [2]:=by first | kernel_rfl | decide | (simp [Lib.uvarint, Lib.zigzag])
theorem uvm1 : Lib.uvarint (Lib.zigzag (-1)) = [1]:=by first | kernel_rfl | decide | (simp [Lib.uvarint, Lib.zigzag])
/-- A record's cells; s, n: where its length stands, and its length. -/
def FieldAt (g : Nat) (h at_ td od ky vl : Value) (s n : Int) (w : World) : Prop:=w.heap[g]? = some (.cells #[h, at_, td, od, ky, vl, .int .i64 s, .int .i64 n] 120 (0, 0))
section
variable {g : Nat} {h at_ td od ky vl : Value} {s n : Int} {w w' : World}
theorem FieldAt.cell (hf : FieldAt g h at_ td od ky vl s n w) : ∀ j v, [h, at_, td, od, ky, vl, .int .i64 s, .int .i64 n][j]? = some v → w.cell? ⟨g, j, none⟩ = some v:=fun j v hv => by
 unfold FieldAt at hf
 simp only [World.cell?, hf]
 simpa using hv
theorem FieldAt.frozen (hf : FieldAt g h at_ td od ky vl s n w) (o : Nat) : w.frozen? ⟨g, o, none⟩ = false:=by
 unfold FieldAt at hf
 simp [World.frozen?, hf]
theorem FieldAt.keep {S : List Nat} (hf : FieldAt g h at_ td od ky vl s n w) (k : Kept S w w') (hg : g ∉ S) : FieldAt g h at_ td od ky vl s n w':=k.heap hf hg
theorem FieldAt.lt (hf : FieldAt g h at_ td od ky vl s n w) : g < w.heap.size:=(Array.getElem?_eq_some_iff.1 hf).1
end
theorem vl_save (g : Nat) (h at_ td od ky vl : Value) (s n x : Int) (w : World) (hf : FieldAt g h at_ td od ky vl s n w) : Calls Tryz.prog 308 #[.pointer (some ⟨g, 6, none⟩), .int .i64 x] w (fun e w' => e = .returned (.tuple #[]) ∧ FieldAt g h at_ td od ky vl x n w' ∧ Kept [g] w w'):=by
 have HF:=lh hf
 have h6:=hf.cell 6 _ rfl
 have h6f:=hf.frozen 6
 clear hf
 go_enter Tryz.func308, Tryz.ntmps308
 go_wp2
 refine bodyPost_end (results_none rfl _ _ _) rfl ⟨rfl, ?_, kept_set g 6 _ _⟩
 unfold FieldAt
 rw [heap_setCell_same _ _ _ _ _ _ HF.out]
 rfl
def vrF (g z : Nat) (n : Int) (k : Nat) (ix : Nat) (v : Value) (_ : World) : Prop :=
 match ix with
 | 0 => v = .slice (some ⟨z, 0, none⟩) 10 10
 | 1 => v = .pointer (some ⟨g, 6, none⟩)
 | 2 => v = .pointer (some ⟨g, 6, none⟩)
 | 3 => v = .pointer (some ⟨g, 7, none⟩)
 | 4 => v = .int .i64 n
 | 5 => v = .int .i64 k
 | _ => True
theorem vrF_stable {g z n k} : ∀ ix v w w', vrF g z n k ix v w → RZ z w w' → vrF g z n k ix v w':=by
 intro ix v w w' h k
 unfold vrF at h ⊢
 split at h <;> (first | (exact h))
theorem vl_reserve (g : Nat) (h at_ td od ky vl : Value) (s n : Int) (w : World) (hf : FieldAt g h at_ td od ky vl s n w) (h0 : -9223372036854775808 ≤ n) (h1 : n ≤ 9223372036854775807) : Calls Tryz.prog 306 #[.pointer (some ⟨g, 6, none⟩)] w (fun e w' => e = .returned (.int .i64 (Lib.uvarint (Lib.zigzag n)).length) ∧ Kept [] w w'):=by
 have HF:=lh hf
 have hgl:=hf.lt
 have hlen : (Lib.uvarint (Lib.zigzag n)).length ≤ 10:=Lib.uvarint_length64 (zigzag_lt h0 h1)
 obtain ⟨k, hk⟩ : ∃ k, (Lib.uvarint (Lib.zigzag n)).length = k:=⟨_, rfl⟩
 have HC : Hid (∀ W : World, Z10 w.heap.size W → Calls Tryz.prog 220 #[.slice (some ⟨w.heap.size, 0, none⟩) 10 10, .int .i64 n] W fun e w' => e = .returned (.int .i64 k) ∧ RZ w.heap.size W w'):=fun W hW => by
  refine (Tryz.binary_PutVarint w.heap.size 0 10 10 n h0 h1 W (by omega) (fun j hj => hW j (by omega))).mono ?_
  rintro e w' ⟨rfl, rfl⟩
  exact ⟨by rw [hk], kept_setCells _ _ _ _, fun h => h.setCells _ _ _⟩
 rw [hk] at hlen ⊢
 clear hf hk h0 h1
 go_enter Tryz.func306, Tryz.ntmps306
 go_wp2
 obtain ⟨z, hz⟩ : ∃ z, w.heap.size = z:=⟨_, rfl⟩
 have HZ0 : Hid (Z10 w.heap.size (w.alloc (.cells #[.int .u8 0, .int .u8 0, .int .u8 0, .int .u8 0, .int .u8 0, .int .u8 0, .int .u8 0, .int .u8 0, .int .u8 0, .int .u8 0] 341))):=fun j hj => ⟨zero10 w j hj, World.frozen?_alloc_new _ _ _ _⟩
 have HF1 : Hid (FieldAt g h at_ td od ky vl s n (w.alloc (.cells #[.int .u8 0, .int .u8 0, .int .u8 0, .int .u8 0, .int .u8 0, .int .u8 0, .int .u8 0, .int .u8 0, .int .u8 0, .int .u8 0] 341))):=HF.out.keep ((Kept.refl [] w).alloc _) (by simp)
 have HK1 : Hid (Kept [] w (w.alloc (.cells #[.int .u8 0, .int .u8 0, .int .u8 0, .int .u8 0, .int .u8 0, .int .u8 0, .int .u8 0, .int .u8 0, .int .u8 0, .int .u8 0] 341))):=(Kept.refl [] w).alloc _
 have hzs : (w.alloc (.cells #[.int .u8 0, .int .u8 0, .int .u8 0, .int .u8 0, .int .u8 0, .int .u8 0, .int .u8 0, .int .u8 0, .int .u8 0, .int .u8 0] 341)).heap.size = w.heap.size + 1:=by simp
 generalize w.alloc (.cells #[.int .u8 0, .int .u8 0, .int .u8 0, .int .u8 0, .int .u8 0, .int .u8 0, .int .u8 0, .int .u8 0, .int .u8 0, .int .u8 0] 341) = w1 at HZ0 HF1 HK1 hzs ⊢
 rw [hz] at HZ0 HC hzs hgl ⊢
 have HZZ:=lh hz
 have HGZ:=lh hgl
 clear hz hgl
 refine wp_region_facts' 6 (RZ z) (vrF g z n k) mixed (by kernel_rfl) (RZ.drew _ _) (fun _ _ _ h k => h.trans k) vrF_stable ?_ ?_
 ·refine ⟨?_, ?_, ?_, ?_, ?_, ?_, trivial⟩
  all_goals go_light
  all_goals intro a W hR hs hd
  all_goals have p0 : a.tmps[0]? = some (.pointer (some ⟨g, 6, none⟩)):=hs.2.2 0 (by decide)
  all_goals have p3 : a.tmps[3]? = some (.pointer (some ⟨z, 0, none⟩)):=hs.2.2 3 (by decide)
  all_goals have hRr:=RZ.refl z W
  all_goals have m_g_7 : W.cell? ⟨g, 7, none⟩ = some (.int .i64 n):=hR.1.cell (HF1.out.cell 7 _ rfl) (by have:=HGZ.out; simp; omega)
  ·refine ov W (.slice (some ⟨z, 0, none⟩) 10 10) ?_ (.mk hRr rfl rfl)
   have hal : Tryz.prog.arrayLen 341 = 10:=by simp [Program.arrayLen, Tryz.underlying341]
   have hsl : (Instr.sliceAt 341 (.pointer (some ⟨z, 0, none⟩)) none none none).run Tryz.prog W = .ok (.slice (some ⟨z, 0, none⟩) 10 10) W:=by
    rw [run_sliceAt_array_all W 341 ⟨z, 0, none⟩ (by simp [Program.arrayLen, Program.elem, Tryz.underlying341])]
    simp [hal, slicedAt]
    kernel_rfl
   simp [go_sem, p3, hsl]
  ·refine ov W (.pointer (some ⟨g, 6, none⟩)) ?_ (.mk hRr rfl rfl)
   simp [go_sem, p0]
  ·have q1 : _ = _:=hd.1 rfl
   refine ov W (.pointer (some ⟨g, 6, none⟩)) ?_ (.mk hRr rfl rfl)
   simp [go_sem, q1]
  ·have q2 : _ = _:=hd.1 rfl
   refine ov W (.pointer (some ⟨g, 7, none⟩)) ?_ (.mk hRr rfl rfl)
   simp [go_sem, q2]
  ·have q3 : _ = _:=hd.1 rfl
   refine ov W (.int .i64 n) ?_ (.mk hRr rfl rfl)
   simp [go_sem, q3, m_g_7]
  ·have q0 : _ = _:=hd.1 rfl
   have q4 : _ = _:=hd.2.1 rfl
   refine ow_call (w':=W) (f:=220) (args:=#[.slice (some ⟨z, 0, none⟩) 10 10, .int .i64 n]) (by simp [go_sem, q0, q4]) (HC.out W (hR.2 HZ0.out)) ?_
   rintro e w' ⟨rfl, hk⟩
   exact ⟨_, rfl, .mk hk rfl rfl⟩
 ·intro f W hR hf
  obtain ⟨f0, f1, f2, f3, f4, f5, -⟩:=hf
  change f 4 = _ at f0
  change f 5 = _ at f1
  change f 6 = _ at f2
  change f 7 = _ at f3
  change f 8 = _ at f4
  change f 9 = _ at f5
  simp only [headDsts, List.take_succ_cons, List.take_zero, List.filterMap_cons, List.filterMap_nil, setAll, f0, f1, f2, f3, f4, f5, List.setIfInBounds_toArray, List.set_cons_succ, List.set_cons_zero, List.drop_succ_cons, List.drop_zero]
  clear f0 f1 f2 f3 f4 f5 f
  go_wp2
  go_ret
  exact ⟨rfl, HK1.out.trans hR.1 (fun x hx => .inr (by have:=List.mem_singleton.1 hx; have:=HZZ.out; omega))⟩
theorem vl_adjust (g : Nat) (h at_ td od ky vl : Value) (w : World) (hf : FieldAt g h at_ td od ky vl 0 0 w) : Calls Tryz.prog 303 #[.pointer (some ⟨g, 6, none⟩), .int .i64 8] w (fun e w' => e = .returned (.int .i64 0) ∧ FieldAt g h at_ td od ky vl 0 7 w' ∧ Kept [g] w w'):=by
 have HF:=lh hf
 have HR0 : Hid (Calls Tryz.prog 306 #[.pointer (some ⟨g, 6, none⟩)] w (fun e w' => e = .returned (.int .i64 1) ∧ Kept [] w w')):=by
  have h1:=vl_reserve g h at_ td od ky vl 0 0 w hf (by omega) (by omega)
  rw [uv0] at h1
  exact h1
 have HR7 : Hid (∀ W, FieldAt g h at_ td od ky vl 0 7 W → Calls Tryz.prog 306 #[.pointer (some ⟨g, 6, none⟩)] W (fun e w' => e = .returned (.int .i64 1) ∧ Kept [] W w')):=fun W hW => by
  have h1:=vl_reserve g h at_ td od ky vl 0 7 W hW (by omega) (by omega)
  rw [uv7] at h1
  exact h1
 clear hf
 go_enter Tryz.func303, Tryz.ntmps303
 go_wp2_with (first
  | ((with_reducible refine HR0.out.mono ?_); rintro e w1 ⟨rfl, hk1⟩; have HK1:=lh hk1; have hF1:=HF.out.keep hk1 (by simp); have h6:=hF1.cell 6 _ rfl; have h7:=hF1.cell 7 _ rfl; have h7f:=hF1.frozen 7; have HF1:=lh hF1; clear hF1 hk1)
  | (have HF2 : Hid (FieldAt g h at_ td od ky vl 0 7 (w1.setCell ⟨g, 7, none⟩ (.int .i64 7))):=(by show _ = _; rw [heap_setCell_same _ _ _ _ _ _ HF1.out]; rfl); (with_reducible refine (HR7.out _ HF2.out).mono ?_); rintro e w2 ⟨rfl, hk2⟩; have HK2:=lh hk2; clear hk2))
 go_ret
 exact ⟨rfl, HF2.out.keep HK2.out (by simp), (HK1.out.mono (T:=[g]) (by simp)).trans ((kept_set g 7 _ _).trans (HK2.out.mono (by simp)) (fun x hx => .inl hx)) (fun x hx => .inl hx)⟩
end Go.Proofs.YtmpjikihnmagoaaGreatDoor
/-
 A length ahead of a record: written over, checked, read (307, 304, 305). Conditions: a length of 7.
-/
namespace Go.Proofs.YtmpjikihnmagoaaGreatDoor
open Go.RowKit
theorem Raw.over {r N : Nat} {b c : UInt8} {k : List UInt8} {w : World} (h : Raw r N (b :: k) w) : Raw r N (c :: k) (w.setCells r 0 (Lib.byteCells [c])):=by
 obtain ⟨A, h1, h2, h3, h4⟩:=h
 simp only [List.length_cons] at h3
 refine ⟨A.setIfInBounds 0 (.int .u8 (c.toNat : Int)), heap_setCell_same _ _ _ _ _ _ h1, by simp [h2], by simp; omega, fun j x hj => ?_⟩
 rw [Array.getElem?_setIfInBounds]
 match j, hj with
 | 0, hj =>
  simp at hj
  rw [if_pos rfl, if_pos (by omega), hj]
 | j + 1, hj =>
  rw [if_neg (by omega)]
  exact h4 (j + 1) x (by simpa using hj)
def vuF (g r : Nat) (ix : Nat) (v : Value) (_ : World) : Prop :=
 match ix with
 | 0 => v = .slice (some ⟨r, 0, none⟩) 8 8
 | 1 => v = .pointer (some ⟨g, 6, none⟩)
 | 2 => v = .pointer (some ⟨g, 6, none⟩)
 | 3 => v = .pointer (some ⟨g, 6, none⟩)
 | 4 => v = .int .i64 0
 | 5 => v = .slice (some ⟨r, 0, none⟩) 8 8
 | 6 => v = .pointer (some ⟨g, 6, none⟩)
 | 7 => v = .pointer (some ⟨g, 6, none⟩)
 | 8 => v = .pointer (some ⟨g, 7, none⟩)
 | 9 => v = .int .i64 7
 | _ => True
theorem vuF_stable {g r} : ∀ ix v w w', vuF g r ix v w → Kept [] w w' → vuF g r ix v w':=by
 intro ix v w w' h k
 unfold vuF at h ⊢
 split at h <;> (first | (exact h))
theorem vl_run (g r : Nat) (h at_ td od ky vl : Value) (b : UInt8) (k : List UInt8) (w : World) (hf : FieldAt g h at_ td od ky vl 0 7 w) (hr : Raw r 8 (b :: k) w) : Calls Tryz.prog 307 #[.pointer (some ⟨g, 6, none⟩), .int .i64 8, .slice (some ⟨r, 0, none⟩) 8 8] w (fun e w' => e = .returned .nilIface ∧ Raw r 8 (14 :: k) w' ∧ Kept [r] w w'):=by
 have HF:=lh hf
 have HRW:=lh hr
 have HC : Hid (∀ W, Kept [] w W → Calls Tryz.prog 220 #[.slice (some ⟨r, 0, none⟩) 8 8, .int .i64 7] W (fun e w' => e = .returned (.int .i64 1) ∧ w' = W.setCells r 0 (Lib.byteCells [14]))):=lh fun W hk => by
  have h1:=Tryz.binary_PutVarint r 0 8 8 7 (by omega) (by omega) W (by rw [uv7]; decide) (fun j hj => by
   rw [uv7] at hj
   have hj0 : j = 0:=by simpa using hj
   subst hj0
   have h2:=hr.keep hk (by simp)
   obtain ⟨x, hx⟩:=h2.isCell (j:=0) (by omega)
   exact ⟨by rw [Nat.zero_add, hx]; rfl, h2.frozen⟩)
  rw [uv7] at h1
  exact h1
 clear hf hr
 go_enter Tryz.func307, Tryz.ntmps307
 go_wp2
 refine wp_region_facts' 10 (Kept []) (vuF g r) mixed (by kernel_rfl) (Kept.refl _ _).drew (fun _ _ _ h k => h.trans k (fun x hx => .inl hx)) vuF_stable ?_ ?_
 ·refine ⟨?_, ?_, ?_, ?_, ?_, ?_, ?_, ?_, ?_, ?_, trivial⟩
  all_goals go_light
  all_goals intro a W hR hs hd
  all_goals have p0 : a.tmps[0]? = some (.pointer (some ⟨g, 6, none⟩)):=hs.2.2 0 (by decide)
  all_goals have p2 : a.tmps[2]? = some (.slice (some ⟨r, 0, none⟩) 8 8):=hs.2.2 2 (by decide)
  all_goals have hRr : Kept [] W W:=Kept.refl _ _
  all_goals have m_g_6 : W.cell? ⟨g, 6, none⟩ = some (.int .i64 0):=hR.cell (HF.out.cell 6 _ rfl) (by simp)
  all_goals have m_g_7 : W.cell? ⟨g, 7, none⟩ = some (.int .i64 7):=hR.cell (HF.out.cell 7 _ rfl) (by simp)
  all_goals have hsl : (Instr.sliceAt 34 (.slice (some ⟨r, 0, none⟩) 8 8) (some (.int .i64 0)) none none).run Tryz.prog W = .ok (.slice (some ⟨r, 0, none⟩) 8 8) W:=raw_from_lt W r 0 8 (by omega)
  ·refine ov W (.slice (some ⟨r, 0, none⟩) 8 8) ?_ (.mk hRr rfl rfl)
   simp [go_sem, p2]
  ·refine ov W (.pointer (some ⟨g, 6, none⟩)) ?_ (.mk hRr rfl rfl)
   simp [go_sem, p0]
  ·have q1 : _ = _:=hd.1 rfl
   refine ov W (.pointer (some ⟨g, 6, none⟩)) ?_ (.mk hRr rfl rfl)
   simp [go_sem, q1]
  ·have q2 : _ = _:=hd.1 rfl
   refine ov W (.pointer (some ⟨g, 6, none⟩)) ?_ (.mk hRr rfl rfl)
   simp [go_sem, q2]
  ·have q3 : _ = _:=hd.1 rfl
   refine ov W (.int .i64 0) ?_ (.mk hRr rfl rfl)
   simp [go_sem, q3, m_g_6]
  ·have q0 : _ = _:=hd.1 rfl
   have q4 : _ = _:=hd.2.1 rfl
   refine ov W (.slice (some ⟨r, 0, none⟩) 8 8) ?_ (.mk hRr rfl rfl)
   simp [go_sem, q0, q4, hsl]
  ·refine ov W (.pointer (some ⟨g, 6, none⟩)) ?_ (.mk hRr rfl rfl)
   simp [go_sem, p0]
  ·have q6 : _ = _:=hd.1 rfl
   refine ov W (.pointer (some ⟨g, 6, none⟩)) ?_ (.mk hRr rfl rfl)
   simp [go_sem, q6]
  ·have q7 : _ = _:=hd.1 rfl
   refine ov W (.pointer (some ⟨g, 7, none⟩)) ?_ (.mk hRr rfl rfl)
   simp [go_sem, q7]
  ·have q8 : _ = _:=hd.1 rfl
   refine ov W (.int .i64 7) ?_ (.mk hRr rfl rfl)
   simp [go_sem, q8, m_g_7]
 ·intro f W1 hR hf
  obtain ⟨f0, f1, f2, f3, f4, f5, f6, f7, f8, f9, -⟩:=hf
  change f 7 = _ at f0
  change f 8 = _ at f1
  change f 9 = _ at f2
  change f 10 = _ at f3
  change f 11 = _ at f4
  change f 12 = _ at f5
  change f 13 = _ at f6
  change f 14 = _ at f7
  change f 15 = _ at f8
  change f 16 = _ at f9
  simp only [headDsts, List.take_succ_cons, List.take_zero, List.filterMap_cons, List.filterMap_nil, setAll, f0, f1, f2, f3, f4, f5, f6, f7, f8, f9, List.setIfInBounds_toArray, List.set_cons_succ, List.set_cons_zero, List.drop_succ_cons, List.drop_zero]
  clear f0 f1 f2 f3 f4 f5 f6 f7 f8 f9 f
  have HR:=lh hR
  clear hR
  go_wp2_with ((with_reducible refine (HC.out _ HR.out).mono ?_); rintro e w2 ⟨rfl, hw2⟩; have HW2:=lh hw2; clear hw2)
  go_ret
  have hw2:=HW2.out
  subst hw2
  exact ⟨rfl, (HRW.out.keep HR.out (by simp)).over, (HR.out.mono (T:=[r]) (by simp)).trans (kept_setCells _ _ _ _) (fun x hx => .inl hx)⟩
def vcF (g : Nat) (ix : Nat) (v : Value) (_ : World) : Prop :=
 match ix with
 | 0 => v = .int .i64 8
 | 1 => v = .pointer (some ⟨g, 6, none⟩)
 | 2 => v = .pointer (some ⟨g, 6, none⟩)
 | 3 => v = .pointer (some ⟨g, 6, none⟩)
 | 4 => v = .int .i64 0
 | 5 => v = .int .i64 8
 | 6 => v = .pointer (some ⟨g, 6, none⟩)
 | 7 => v = .int .i64 1
 | 8 => v = .int .i64 7
 | 9 => v = .pointer (some ⟨g, 6, none⟩)
 | 10 => v = .pointer (some ⟨g, 6, none⟩)
 | 11 => v = .pointer (some ⟨g, 7, none⟩)
 | 12 => v = .int .i64 7
 | _ => True
theorem vcF_stable {g} : ∀ ix v w w', vcF g ix v w → Kept [] w w' → vcF g ix v w':=by
 intro ix v w w' h k
 unfold vcF at h ⊢
 split at h <;> (first | (exact h))
theorem vl_check (g : Nat) (h at_ td od ky vl sl : Value) (w : World) (hf : FieldAt g h at_ td od ky vl 0 7 w) : Calls Tryz.prog 304 #[.pointer (some ⟨g, 6, none⟩), .int .i64 8, sl] w (fun e w' => e = .returned .nilIface ∧ Kept [] w w'):=by
 have HF:=lh hf
 have HC : Hid (∀ W, Kept [] w W → Calls Tryz.prog 306 #[.pointer (some ⟨g, 6, none⟩)] W (fun e w' => e = .returned (.int .i64 1) ∧ Kept [] W w')):=lh fun W hk => by
  have h1:=vl_reserve g h at_ td od ky vl 0 7 W (hf.keep hk (by simp)) (by omega) (by omega)
  rw [uv7] at h1
  exact h1
 clear hf
 go_enter Tryz.func304, Tryz.ntmps304
 go_wp2
 refine wp_region_facts' 13 (Kept []) (vcF g) mixed (by kernel_rfl) (Kept.refl _ _).drew (fun _ _ _ h k => h.trans k (fun x hx => .inl hx)) vcF_stable ?_ ?_
 ·refine ⟨?_, ?_, ?_, ?_, ?_, ?_, ?_, ?_, ?_, ?_, ?_, ?_, ?_, trivial⟩
  all_goals go_light
  all_goals intro a W hR hs hd
  all_goals have p0 : a.tmps[0]? = some (.pointer (some ⟨g, 6, none⟩)):=hs.2.2 0 (by decide)
  all_goals have p1 : a.tmps[1]? = some (.int .i64 8):=hs.2.2 1 (by decide)
  all_goals have hRr : Kept [] W W:=Kept.refl _ _
  all_goals have m_g_6 : W.cell? ⟨g, 6, none⟩ = some (.int .i64 0):=hR.cell (HF.out.cell 6 _ rfl) (by simp)
  all_goals have m_g_7 : W.cell? ⟨g, 7, none⟩ = some (.int .i64 7):=hR.cell (HF.out.cell 7 _ rfl) (by simp)
  ·refine ov W (.int .i64 8) ?_ (.mk hRr rfl rfl)
   simp [go_sem, p1]
  ·refine ov W (.pointer (some ⟨g, 6, none⟩)) ?_ (.mk hRr rfl rfl)
   simp [go_sem, p0]
  ·have q1 : _ = _:=hd.1 rfl
   refine ov W (.pointer (some ⟨g, 6, none⟩)) ?_ (.mk hRr rfl rfl)
   simp [go_sem, q1]
  ·have q2 : _ = _:=hd.1 rfl
   refine ov W (.pointer (some ⟨g, 6, none⟩)) ?_ (.mk hRr rfl rfl)
   simp [go_sem, q2]
  ·have q3 : _ = _:=hd.1 rfl
   refine ov W (.int .i64 0) ?_ (.mk hRr rfl rfl)
   simp [go_sem, q3, m_g_6]
  ·have q0 : _ = _:=hd.1 rfl
   have q4 : _ = _:=hd.2.1 rfl
   refine ov W (.int .i64 8) ?_ (.mk hRr rfl rfl)
   simp [go_sem, q0, q4]
   rfl
  ·refine ov W (.pointer (some ⟨g, 6, none⟩)) ?_ (.mk hRr rfl rfl)
   simp [go_sem, p0]
  ·have q6 : _ = _:=hd.1 rfl
   refine ow_call (w':=W) (f:=306) (args:=#[.pointer (some ⟨g, 6, none⟩)]) (by simp [go_sem, q6]) (HC.out W hR) ?_
   rintro e w' ⟨rfl, hk⟩
   exact ⟨_, rfl, .mk hk rfl rfl⟩
  ·have q5 : _ = _:=hd.1 rfl
   have q7 : _ = _:=hd.2.1 rfl
   refine ov W (.int .i64 7) ?_ (.mk hRr rfl rfl)
   simp [go_sem, q5, q7]
   rfl
  ·refine ov W (.pointer (some ⟨g, 6, none⟩)) ?_ (.mk hRr rfl rfl)
   simp [go_sem, p0]
  ·have q9 : _ = _:=hd.1 rfl
   refine ov W (.pointer (some ⟨g, 6, none⟩)) ?_ (.mk hRr rfl rfl)
   simp [go_sem, q9]
  ·have q10 : _ = _:=hd.1 rfl
   refine ov W (.pointer (some ⟨g, 7, none⟩)) ?_ (.mk hRr rfl rfl)
   simp [go_sem, q10]
  ·have q11 : _ = _:=hd.1 rfl
   refine ov W (.int .i64 7) ?_ (.mk hRr rfl rfl)
   simp [go_sem, q11, m_g_7]
 ·intro f W1 hR hf
  obtain ⟨f0, f1, f2, f3, f4, f5, f6, f7, f8, f9, f10, f11, f12, -⟩:=hf
  change f 7 = _ at f0
  change f 8 = _ at f1
  change f 9 = _ at f2
  change f 10 = _ at f3
  change f 11 = _ at f4
  change f 12 = _ at f5
  change f 13 = _ at f6
  change f 14 = _ at f7
  change f 15 = _ at f8
  change f 16 = _ at f9
  change f 17 = _ at f10
  change f 18 = _ at f11
  change f 19 = _ at f12
  simp only [headDsts, List.take_succ_cons, List.take_zero, List.filterMap_cons, List.filterMap_nil, setAll, f0, f1, f2, f3, f4, f5, f6, f7, f8, f9, f10, f11, f12, List.setIfInBounds_toArray, List.set_cons_succ, List.set_cons_zero, List.drop_succ_cons, List.drop_zero]
  clear f0 f1 f2 f3 f4 f5 f6 f7 f8 f9 f10 f11 f12 f
  go_wp2
  go_ret
  exact ⟨rfl, hR⟩
theorem vl_decode {T : TypeId} {v : Value} {fl : Bool} {At : List UInt8 → List UInt8 → World → Prop} {S : List Nat} {raw : Nat} {own : Nat → Prop} (D : Dec T v fl At S raw own) (g : Nat) (h at_ td od ky vl : Value) (s n : Int) (pre rest : List UInt8) (w : World) (hf : FieldAt g h at_ td od ky vl s n w) (hg : ¬ own g) (hA : At pre (14 :: rest) w) : Calls Tryz.prog 305 #[.pointer (some ⟨g, 6, none⟩), .iface T v] w (fun e w' => e = .returned .nilIface ∧ FieldAt g h at_ td od ky vl s 7 w' ∧ At (pre ++ [14]) rest w' ∧ Kept (g :: S) w w'):=by
 have HF:=lh hf
 have hgS : g ∉ S:=fun hx => hg (D.sub g hx)
 have HV : Hid (Inv T v "getVarint" [] w (DR At S (.int .i64 7) (pre ++ [14]) rest w)):=lh (by
  have h1:=D.varint pre rest w 7 (by unfold Num64; omega) (by rw [uv7]; exact hA)
  rw [uv7] at h1
  exact h1)
 clear hf hA
 go_enter Tryz.func305, Tryz.ntmps305
 go_wp2_with (refine wl_invoke rfl _ _ _ _ rfl T v rfl "getVarint" rfl [] (by simp [go_sem]) _ HV.out ?_; rintro e w2 ⟨rfl, ha, hk2⟩; refine ⟨_, rfl, ?_⟩; have HA:=lh ha; have hF2:=HF.out.keep hk2 hgS; have h7:=hF2.cell 7 _ rfl; have h7f:=hF2.frozen 7; have HF2:=lh hF2; have HK2:=lh hk2; clear ha hk2 hF2)
 go_ret
 refine ⟨rfl, ?_, D.keepg _ _ _ _ g hg HA.out (kept_set g 7 _ _), (HK2.out.mono (T:=g :: S) (fun x hx => List.mem_cons_of_mem _ hx)).trans ((kept_set g 7 _ _).mono (T:=g :: S) (by simp)) (fun x hx => .inl hx)⟩
 show _ = _
 rw [heap_setCell_same _ _ _ _ _ _ HF2.out]
 rfl
theorem fv_saveOffset (a : Addr) (w : World) : (Go.method 483 312 (.pointer (some a)) "pub-kestrel/pub/sarama.saveOffset").run Tryz.prog w = .ok (308, .pointer (some a)) w:=by kernel_rfl
theorem fva_saveOffset (a : Addr) (w : World) : (nilAhead 483 312 (.pointer (some a)) "pub-kestrel/pub/sarama.saveOffset").run Tryz.prog w = .ok (some false) w:=by kernel_rfl
theorem fv_reserveLength (a : Addr) (w : World) : (Go.method 483 312 (.pointer (some a)) "pub-kestrel/pub/sarama.reserveLength").run Tryz.prog w = .ok (306, .pointer (some a)) w:=by kernel_rfl
theorem fva_reserveLength (a : Addr) (w : World) : (nilAhead 483 312 (.pointer (some a)) "pub-kestrel/pub/sarama.reserveLength").run Tryz.prog w = .ok (some false) w:=by kernel_rfl
theorem fv_adjustLength (a : Addr) (w : World) : (Go.method 483 312 (.pointer (some a)) "pub-kestrel/pub/sarama.adjustLength").run Tryz.prog w = .ok (303, .pointer (some a)) w:=by kernel_rfl
theorem fva_adjustLength (a : Addr) (w : World) : (nilAhead 483 312 (.pointer (some a)) "pub-kestrel/pub/sarama.adjustLength").run Tryz.prog w = .ok (some false) w:=by kernel_rfl
theorem fv_run (a : Addr) (w : World) : (Go.method 483 312 (.pointer (some a)) "pub-kestrel/pub/sarama.run").run Tryz.prog w = .ok (307, .pointer (some a)) w:=by kernel_rfl
theorem fva_run (a : Addr) (w : World) : (nilAhead 483 312 (.pointer (some a)) "pub-kestrel/pub/sarama.run").run Tryz.prog w = .ok (some false) w:=by kernel_rfl
theorem fv_check (a : Addr) (w : World) : (Go.method 483 312 (.pointer (some a)) "pub-kestrel/pub/sarama.check").run Tryz.prog w = .ok (304, .pointer (some a)) w:=by kernel_rfl
theorem fva_check (a : Addr) (w : World) : (nilAhead 483 312 (.pointer (some a)) "pub-kestrel/pub/sarama.check").run Tryz.prog w = .ok (some false) w:=by kernel_rfl
theorem fv_decode (a : Addr) (w : World) : (Go.method 483 312 (.pointer (some a)) "pub-kestrel/pub/sarama.decode").run Tryz.prog w = .ok (305, .pointer (some a)) w:=by kernel_rfl
theorem fva_decode (a : Addr) (w : World) : (nilAhead 483 312 (.pointer (some a)) "pub-kestrel/pub/sarama.decode").run Tryz.prog w = .ok (some false) w:=by kernel_rfl
theorem fp_push (a : Addr) (w : World) : (Go.method 483 160 (.pointer (some a)) "pub-kestrel/pub/sarama.push").run Tryz.prog w = .ok (200, .pointer (some a)) w:=by kernel_rfl
theorem fpa_push (a : Addr) (w : World) : (nilAhead 483 160 (.pointer (some a)) "pub-kestrel/pub/sarama.push").run Tryz.prog w = .ok (some false) w:=by kernel_rfl
theorem fp_pop (a : Addr) (w : World) : (Go.method 483 160 (.pointer (some a)) "pub-kestrel/pub/sarama.pop").run Tryz.prog w = .ok (199, .pointer (some a)) w:=by kernel_rfl
theorem fpa_pop (a : Addr) (w : World) : (nilAhead 483 160 (.pointer (some a)) "pub-kestrel/pub/sarama.pop").run Tryz.prog w = .ok (some false) w:=by kernel_rfl
theorem fr_push (a : Addr) (w : World) : (Go.method 483 172 (.pointer (some a)) "pub-kestrel/pub/sarama.push").run Tryz.prog w = .ok (238, .pointer (some a)) w:=by kernel_rfl
theorem fra_push (a : Addr) (w : World) : (nilAhead 483 172 (.pointer (some a)) "pub-kestrel/pub/sarama.push").run Tryz.prog w = .ok (some false) w:=by kernel_rfl
theorem fr_pop (a : Addr) (w : World) : (Go.method 483 172 (.pointer (some a)) "pub-kestrel/pub/sarama.pop").run Tryz.prog w = .ok (237, .pointer (some a)) w:=by kernel_rfl
theorem fra_pop (a : Addr) (w : World) : (nilAhead 483 172 (.pointer (some a)) "pub-kestrel/pub/sarama.pop").run Tryz.prog w = .ok (some false) w:=by kernel_rfl
theorem fd_push (a : Addr) (w : World) : (Go.method 483 148 (.pointer (some a)) "pub-kestrel/pub/sarama.push").run Tryz.prog w = .ok (171, .pointer (some a)) w:=by kernel_rfl
theorem fda_push (a : Addr) (w : World) : (nilAhead 483 148 (.pointer (some a)) "pub-kestrel/pub/sarama.push").run Tryz.prog w = .ok (some false) w:=by kernel_rfl
theorem fd_pop (a : Addr) (w : World) : (Go.method 483 148 (.pointer (some a)) "pub-kestrel/pub/sarama.pop").run Tryz.prog w = .ok (170, .pointer (some a)) w:=by kernel_rfl
theorem fda_pop (a : Addr) (w : World) : (nilAhead 483 148 (.pointer (some a)) "pub-kestrel/pub/sarama.pop").run Tryz.prog w = .ok (some false) w:=by kernel_rfl
end Go.Proofs.YtmpjikihnmagoaaGreatDoor
