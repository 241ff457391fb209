/-
  Bytes that may be null, handed over (82). Conditions: few bytes.
-/
import Derived.Test.YtmpjikihnmagoaaGreatDoorZT37
set_option maxRecDepth 100000
set_option maxHeartbeats 3200000
namespace Go.Proofs.YtmpjikihnmagoaaGreatDoor
open Go.RowKit
theorem raw_null (w : World) (A : Option Addr) (n c : Nat) : Calls Tryz.prog 82 #[.agg #[.bool true, .slice A n c]] w (fun e w' => e = .returned (.slice none 0 0) ∧ Kept [] w w'):=by
 go_enter Tryz.func82, Tryz.ntmps82
 go_wp2
 go_ret
 exact ⟨rfl, (Kept.refl [] w).alloc _⟩
theorem raw_some (w : World) (A : Option Addr) (n c : Nat) (f : List UInt8) (hf : f.length = n) (hn : n ≤ 1000000) (hA : SlIs w 1 A n (Lib.byteCells f)) : Calls Tryz.prog 82 #[.agg #[.bool false, .slice A n c]] w (CopyR n f w):=by
 have HC:=lh (fun (W : World) (hk : Kept [] w W) => copied_any W A n c f hf hn (hA.kept0 hk))
 clear hA
 go_enter Tryz.func82, Tryz.ntmps82
 go_wp2_with ((with_reducible refine (HC.out _ ((Kept.refl [] w).alloc _)).mono ?_); rintro e w1 ⟨a1, c1, rfl, h1, h2, h3, h4, hk1⟩; have H1:=lh h1; have H2:=lh h2; have H3:=lh h3; have H4:=lh h4; have HK1:=lh (((Kept.refl [] w).alloc _).trans0 hk1); clear h1 h2 h3 h4 hk1)
 have h2:=H2.out
 rw [alloc_size] at h2
 go_ret
 exact ⟨a1, c1, rfl, H1.out, by omega, H3.out, H4.out, HK1.out⟩
end Go.Proofs.YtmpjikihnmagoaaGreatDoor
/-
 The record that recordsAlive writes, as the package's own (58). Conditions: one byte.
-/
namespace Go.Proofs.YtmpjikihnmagoaaGreatDoor
open Go.RowKit
def rcF (aa : Addr) (c z z9 : Nat) (ix : Nat) (v : Value) (W : World) : Prop :=
 match ix with
 | 0 => v = .pointer (some ⟨z, 0, none⟩)
 | 1 => v = .int .i8 0
 | 2 => v = .pointer (some ⟨z, 1, none⟩)
 | 3 => v = .int .i64 0
 | 4 => v = .int .i64 0
 | 5 => v = .pointer (some ⟨z, 2, none⟩)
 | 6 => v = .int .i64 0
 | 7 => v = .pointer (some ⟨z, 3, none⟩)
 | 8 => v = .agg #[.bool true, .slice none 0 0]
 | 9 => v = .slice none 0 0
 | 10 => v = .pointer (some ⟨z, 5, none⟩)
 | 11 => v = .agg #[.bool false, .slice (some aa) 1 c]
 | 12 => ∃ a1 d1, v = .slice (some a1) 1 d1 ∧ SlIs W 1 (some a1) 1 (Lib.byteCells [97]) ∧ z9 ≤ a1.block ∧ a1.block < W.heap.size
 | 13 => ∃ a1 d1, v = .agg #[.slice none 0 0, .int .i8 0, .int .i64 0, .int .i64 0, .slice none 0 0, .slice (some a1) 1 d1, .int .i64 0, .int .i64 0] ∧ SlIs W 1 (some a1) 1 (Lib.byteCells [97]) ∧ z9 ≤ a1.block ∧ a1.block < W.heap.size
 | _ => True
theorem rcF_stable {aa c z z9} : ∀ ix v w w', rcF aa c z z9 ix v w → Kept [] w w' → rcF aa c z z9 ix v w':=by
 intro ix v w w' h k
 unfold rcF at h ⊢
 split at h <;> (first | (exact h) | (obtain ⟨a1, d1, h1, h2, h3, h4⟩:=h; exact ⟨a1, d1, h1, h2.kept0 k, h3, lt_kept k _ h4⟩))
/-- A record in memory: attributes, times and offset 0, no key, the value "a". -/
def RecAt (g : Nat) (a : Addr) (d : Nat) (w : World) : Prop:=w.heap[g]? = some (.cells #[.slice none 0 0, .int .i8 0, .int .i64 0, .int .i64 0, .slice none 0 0, .slice (some a) 1 d, .int .i64 0, .int .i64 0] 120 (0, 0)) ∧ SlIs w 1 (some a) 1 (Lib.byteCells [97])
/-- What record leaves. -/
def RecR (w : World) (e : Ending) (w' : World) : Prop:=∃ g a d, e = .returned (.pointer (some ⟨g, 0, none⟩)) ∧ RecAt g a d w' ∧ w.heap.size ≤ g ∧ w.heap.size ≤ a.block ∧ a.block < w'.heap.size ∧ a.block ≠ g ∧ Kept [] w w'
theorem record_any (w : World) (aa : Addr) (c : Nat) (hA : SlIs w 1 (some aa) 1 (Lib.byteCells [97])) : Calls Tryz.prog 58 #[.agg #[.int .i8 0, .int .i64 0, .int .i64 0, .bool true, .slice none 0 0, .bool false, .slice (some aa) 1 c, .slice none 0 0]] w (RecR w):=by
 have HA:=lh hA
 clear hA
 go_enter Tryz.func58, Tryz.ntmps58
 go_wp2
 obtain ⟨W3, hW3⟩ : ∃ W3, w.alloc (.cells #[.int .i8 0, .int .i64 0, .int .i64 0, .bool true, .slice none 0 0, .bool false, .slice (some aa) 1 c, .slice none 0 0] 71) = W3:=⟨_, rfl⟩
 have hk3 : Kept [] w W3:=by rw [← hW3]; exact (Kept.refl [] w).alloc _
 have hcs : ∀ j v, [.int .i8 0, .int .i64 0, .int .i64 0, .bool true, .slice none 0 0, .bool false, .slice (some aa) 1 c, .slice none 0 0][j]? = some v → W3.cell? ⟨w.heap.size, j, none⟩ = some v:=fun j v hv => by
  rw [← hW3]
  have h1:=new_cells w [.int .i8 0, .int .i64 0, .int .i64 0, .bool true, .slice none 0 0, .bool false, .slice (some aa) 1 c, .slice none 0 0] 71 j v hv
  rw [Nat.zero_add] at h1
  exact h1
 have hs3 : W3.heap.size = w.heap.size + 1:=by rw [← hW3, alloc_size]
 rw [hW3]
 obtain ⟨z, hz⟩ : ∃ z, w.heap.size = z:=⟨_, rfl⟩
 obtain ⟨z9, hz9⟩ : ∃ z9, W3.heap.size = z9:=⟨_, rfl⟩
 rw [hz] at hcs ⊢
 have HZ:=lh hz
 have HZ9:=lh hz9
 have HZ89 : Hid (z9 = z + 1):=lh (by omega)
 have HSL:=lh (HA.out.kept0 hk3)
 have HK3:=lh hk3
 have HCS:=lh hcs
 clear hW3 hk3 hcs hs3 hz hz9
 refine wp_region_facts' 14 (Kept []) (rcF aa c z z9) mixed (by kernel_rfl) (Kept.refl _ _).drew (fun _ _ _ h k => h.trans k (fun x hx => .inl hx)) rcF_stable ?_ ?_
 ·refine ⟨?_, ?_, ?_, ?_, ?_, ?_, ?_, ?_, ?_, ?_, ?_, ?_, ?_, ?_, trivial⟩
  all_goals go_light
  all_goals intro a W hR hs hd
  all_goals have p1 : a.tmps[1]? = some (.pointer (some ⟨z, 0, none⟩)):=hs.2.2 1 (by decide)
  all_goals have hRr : Kept [] W W:=Kept.refl _ _
  all_goals have h0 : W.cell? ⟨z, 0, none⟩ = _:=hR.cell (HCS.out 0 _ rfl) (by simp)
  all_goals have h1 : W.cell? ⟨z, 1, none⟩ = _:=hR.cell (HCS.out 1 _ rfl) (by simp)
  all_goals have h2 : W.cell? ⟨z, 2, none⟩ = _:=hR.cell (HCS.out 2 _ rfl) (by simp)
  all_goals have h3 : W.cell? ⟨z, 3, none⟩ = _:=hR.cell (HCS.out 3 _ rfl) (by simp)
  all_goals have h4 : W.cell? ⟨z, 4, none⟩ = _:=hR.cell (HCS.out 4 _ rfl) (by simp)
  all_goals have h5 : W.cell? ⟨z, 5, none⟩ = _:=hR.cell (HCS.out 5 _ rfl) (by simp)
  all_goals have h6 : W.cell? ⟨z, 6, none⟩ = _:=hR.cell (HCS.out 6 _ rfl) (by simp)
  all_goals have h7 : W.cell? ⟨z, 7, none⟩ = _:=hR.cell (HCS.out 7 _ rfl) (by simp)
  ·refine ov W (.pointer (some ⟨z, 0, none⟩)) ?_ (.mk hRr rfl rfl)
   simp [go_sem, p1]
  ·have q0 : _ = _:=hd.1 rfl
   refine ov W (.int .i8 0) ?_ (.mk hRr rfl rfl)
   simp [go_sem, q0, h0]
  ·refine ov W (.pointer (some ⟨z, 1, none⟩)) ?_ (.mk hRr rfl rfl)
   simp [go_sem, p1]
  ·have q2 : _ = _:=hd.1 rfl
   refine ov W (.int .i64 0) ?_ (.mk hRr rfl rfl)
   simp [go_sem, q2, h1]
  ·have q3 : _ = _:=hd.1 rfl
   refine ov W (.int .i64 0) ?_ (.mk hRr rfl rfl)
   simp [go_sem, q3]
   rfl
  ·refine ov W (.pointer (some ⟨z, 2, none⟩)) ?_ (.mk hRr rfl rfl)
   simp [go_sem, p1]
  ·have q5 : _ = _:=hd.1 rfl
   refine ov W (.int .i64 0) ?_ (.mk hRr rfl rfl)
   simp [go_sem, q5, h2]
  ·refine ov W (.pointer (some ⟨z, 3, none⟩)) ?_ (.mk hRr rfl rfl)
   simp [go_sem, p1]
  ·have q7 : _ = _:=hd.1 rfl
   exact ow_load_struct 60 _ rfl Tryz.underlying60 rfl rfl z 3 (by simp [go_sem, q7]) [.bool true, .slice none 0 0] rfl (fun j v hv => by match j, hv with | 0, hv => cases hv; exact h3 | 1, hv => cases hv; exact h4) (.mk hRr rfl rfl)
  ·have q8 : _ = _:=hd.1 rfl
   refine ow_call (w':=W) (f:=82) (args:=#[.agg #[.bool true, .slice none 0 0]]) (by simp [go_sem, q8]) (raw_null W none 0 0) ?_
   rintro e w' ⟨rfl, hk1⟩
   exact ⟨_, rfl, .mk hk1 rfl rfl⟩
  ·refine ov W (.pointer (some ⟨z, 5, none⟩)) ?_ (.mk hRr rfl rfl)
   simp [go_sem, p1]
  ·have q10 : _ = _:=hd.1 rfl
   exact ow_load_struct 60 _ rfl Tryz.underlying60 rfl rfl z 5 (by simp [go_sem, q10]) [.bool false, .slice (some aa) 1 c] rfl (fun j v hv => by match j, hv with | 0, hv => cases hv; exact h5 | 1, hv => cases hv; exact h6) (.mk hRr rfl rfl)
  ·have q11 : _ = _:=hd.1 rfl
   refine ow_call (w':=W) (f:=82) (args:=#[.agg #[.bool false, .slice (some aa) 1 c]]) (by simp [go_sem, q11]) (raw_some W (some aa) 1 c [97] rfl (by omega) (HSL.out.kept0 hR)) ?_
   rintro e w' ⟨a1, d1, rfl, k1, k2, k3, k4, hk1⟩
   exact ⟨_, rfl, .mk hk1 ⟨a1, d1, rfl, k1, by have h8:=hR.size; have h7:=HZ9.out; omega, k3⟩ rfl⟩
  ·have q1 : _ = _:=hd.1 rfl
   have q4 : _ = _:=hd.2.1 rfl
   have q6 : _ = _:=hd.2.2.1 rfl
   have q9 : _ = _:=hd.2.2.2.1 rfl
   have q12:=hd.2.2.2.2.1 rfl
   obtain ⟨a1, d1, q12, k1, k2, k3⟩:=q12
   change _ = _ at q12
   refine ov W (.agg #[.slice none 0 0, .int .i8 0, .int .i64 0, .int .i64 0, .slice none 0 0, .slice (some a1) 1 d1, .int .i64 0, .int .i64 0]) ?_ (.mk hRr ⟨a1, d1, rfl, k1, k2, k3⟩ rfl)
   simp [go_sem, q1, q4, q6, q9, q12]
 ·intro f W4 hR hf
  obtain ⟨f0, f1, f2, f3, f4, f5, f6, f7, f8, f9, f10, f11, f12, f13, -⟩:=hf
  change f 6 = _ at f0
  change f 7 = _ at f1
  change f 8 = _ at f2
  change f 9 = _ at f3
  change f 10 = _ at f4
  change f 11 = _ at f5
  change f 12 = _ at f6
  change f 13 = _ at f7
  change f 14 = _ at f8
  change f 15 = _ at f9
  change f 16 = _ at f10
  change f 17 = _ at f11
  change ∃ a1 d1, (f 18) = .slice (some a1) 1 d1 ∧ SlIs W4 1 (some a1) 1 (Lib.byteCells [97]) ∧ z9 ≤ a1.block ∧ a1.block < W4.heap.size at f12
  obtain ⟨x12, g12⟩ : ∃ x, f 18 = x:=⟨_, rfl⟩
  rw [g12] at f12
  change ∃ a1 d1, (f 19) = .agg #[.slice none 0 0, .int .i8 0, .int .i64 0, .int .i64 0, .slice none 0 0, .slice (some a1) 1 d1, .int .i64 0, .int .i64 0] ∧ SlIs W4 1 (some a1) 1 (Lib.byteCells [97]) ∧ z9 ≤ a1.block ∧ a1.block < W4.heap.size at f13
  obtain ⟨x13, g13⟩ : ∃ x, f 19 = x:=⟨_, rfl⟩
  rw [g13] at f13
  simp only [headDsts, List.take_succ_cons, List.take_zero, List.filterMap_cons, List.filterMap_nil, setAll, f0, f1, f2, f3, f4, f5, f6, f7, f8, f9, f10, f11, g12, g13, List.setIfInBounds_toArray, List.set_cons_succ, List.set_cons_zero, List.drop_succ_cons, List.drop_zero]
  clear f0 f1 f2 f3 f4 f5 f6 f7 f8 f9 f10 f11 g12 g13 f
  obtain ⟨a1, d1, rfl, k1, k2, k3⟩:=f13
  have h7 : W4.cell? ⟨z, 7, none⟩ = some (.slice none 0 0):=hR.cell (HCS.out 7 _ rfl) (by simp)
  have h7b : (W4.alloc (.cells #[.slice none 0 0, .int .i8 0, .int .i64 0, .int .i64 0, .slice none 0 0, .slice (some a1) 1 d1, .int .i64 0, .int .i64 0] 120)).cell? ⟨z, 7, none⟩ = some (.slice none 0 0):=((Kept.refl [] W4).alloc _).cell h7 (by simp)
  have HK1:=lh k1
  have HK2:=lh k2
  have HKA:=lh k3
  have HKW:=lh (HK3.out.trans0 hR)
  clear f12 k1 k2 k3 hR h7
  go_wp2
  refine wp_loop_once ?_
  go_wp2
  go_ret
  have hz:=HZ.out
  have hz8:=HZ89.out
  have hk2:=HK2.out
  have hka:=HKA.out
  exact ⟨_, a1, d1, rfl, ⟨heap_alloc_new W4 _, HK1.out.kept0 ((Kept.refl [] W4).alloc _)⟩, by omega, by omega, by rw [alloc_size]; omega, by omega, HKW.out.trans0 ((Kept.refl [] W4).alloc _)⟩
end Go.Proofs.YtmpjikihnmagoaaGreatDoor
