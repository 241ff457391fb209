/-
  A message is encoded (124), by the counting encoder and by the writing one. Conditions: the message of recordsAlive.
-/
import Derived.Test.YtmpjikihnmagoaaGreatDoorZT60
set_option maxRecDepth 100000
set_option maxHeartbeats 3200000
namespace Go.Proofs.YtmpjikihnmagoaaGreatDoor
open Go.RowKit
/-- The message of recordsAlive; cache, sz: what an encoding leaves. -/
def MsgAt (mg : Nat) (sa : Addr) (d : Nat) (cache sz : Value) (w : World) : Prop:=w.heap[mg]? = some (.cells #[.int .i8 0, .int .i64 0, .bool false, .slice none 0 0, .slice (some sa) 1 d, .pointer none, .int .i8 0, .int .i64 0, .int .i64 0, cache, sz] 189 (0, 0))
section
variable {mg d : Nat} {sa : Addr} {cache sz : Value} {w w' : World}
theorem MsgAt.cell (hf : MsgAt mg sa d cache sz w) : ∀ j v, [.int .i8 0, .int .i64 0, .bool false, .slice none 0 0, .slice (some sa) 1 d, .pointer none, .int .i8 0, .int .i64 0, .int .i64 0, cache, sz][j]? = some v → w.cell? ⟨mg, j, none⟩ = some v:=fun j v hv => by
 unfold MsgAt at hf
 simp only [World.cell?, hf]
 simpa using hv
theorem MsgAt.frozen (hf : MsgAt mg sa d cache sz w) (o : Nat) : w.frozen? ⟨mg, o, none⟩ = false:=by
 unfold MsgAt at hf
 simp [World.frozen?, hf]
theorem MsgAt.keep {S : List Nat} (hf : MsgAt mg sa d cache sz w) (k : Kept S w w') (hg : mg ∉ S) : MsgAt mg sa d cache sz w':=k.heap hf hg
theorem MsgAt.lt (hf : MsgAt mg sa d cache sz w) : mg < w.heap.size:=(Array.getElem?_eq_some_iff.1 hf).1
theorem MsgAt.set9 (hf : MsgAt mg sa d cache sz w) (v : Value) : MsgAt mg sa d v sz (w.setCell ⟨mg, 9, none⟩ v):=by
 unfold MsgAt
 rw [heap_setCell_same _ _ _ _ _ _ hf]
 rfl
theorem MsgAt.set10 (hf : MsgAt mg sa d cache sz w) (v : Value) : MsgAt mg sa d cache v (w.setCell ⟨mg, 10, none⟩ v):=by
 unfold MsgAt
 rw [heap_setCell_same _ _ _ _ _ _ hf]
 rfl
end
theorem band07 : bits .and .i8 0 7 = 0:=by first | rfl | decide | kernel_rfl
theorem big4m : big 4 (-1 : Int) = [255, 255, 255, 255]:=by first | rfl | decide | kernel_rfl
theorem big41 : big 4 (1 : Int) = [0, 0, 0, 1]:=by first | rfl | decide | kernel_rfl
theorem lenm : lenB false (-1) 4 = [255, 255, 255, 255]:=by first | exact big4m | rfl | decide | kernel_rfl
theorem len97 : lenB false (([97] : List UInt8).length : Int) 4 = [0, 0, 0, 1]:=by first | exact big41 | rfl | decide | kernel_rfl
theorem compress0 (lv : Value) (v : Value) (w : World) : Calls Tryz.prog 132 #[.int .i8 0, lv, v] w (fun e w' => e = .returned (.tuple #[v, .nilIface]) ∧ Kept [] w w'):=by
 go_enter Tryz.func132, Tryz.ntmps132
 go_wp2
 exact bodyPost_ret (results_tmp2 rfl _ _ _) rfl ⟨rfl, Kept.refl _ _⟩
def men1_1F (_mg _d : Nat) (_sa : Addr) (T : TypeId) (pv : Value) (z : Nat) (ix : Nat) (v : Value) (W : World) : Prop :=
 match ix with
 | 0 => v = .iface T pv
 | 1 => ∃ g, v = .pointer (some ⟨g, 0, none⟩) ∧ SumAt g 0 0 W ∧ z ≤ g ∧ g < W.heap.size
 | 2 => ∃ g, v = .iface 296 (.pointer (some ⟨g, 0, none⟩)) ∧ SumAt g 0 0 W ∧ z ≤ g ∧ g < W.heap.size
 | 3 => v = .func (.method "pub-kestrel/pub/sarama.push") #[.iface T pv] #[]
 | 4 => v = .func (.method "pub-kestrel/pub/sarama.push") #[.iface T pv] #[]
 | 5 => v = .iface T pv
 | _ => True
theorem men1_1F_stable {mg d sa T pv z} : ∀ ix v w w', men1_1F mg d sa T pv z ix v w → Kept [] w w' → men1_1F mg d sa T pv z ix v w':=by
 intro ix v w w' h k
 unfold men1_1F at h ⊢
 split at h <;> (first | (exact h) | (obtain ⟨g, h1, h2, h3, h4⟩:=h; exact ⟨g, h1, h2.keep k (by simp), h3, lt_kept k _ h4⟩))
def men1_2F (mg _d : Nat) (_sa : Addr) (T : TypeId) (pv : Value) (ix : Nat) (v : Value) (_ : World) : Prop :=
 match ix with
 | 0 => v = .iface T pv
 | 1 => v = .pointer (some ⟨mg, 0, none⟩)
 | 2 => v = .pointer (some ⟨mg, 0, none⟩)
 | 3 => v = .pointer (some ⟨mg, 6, none⟩)
 | 4 => v = .int .i8 0
 | 5 => v = .func (.method "pub-kestrel/pub/sarama.putInt8") #[.iface T pv] #[]
 | 6 => v = .func (.method "pub-kestrel/pub/sarama.putInt8") #[.iface T pv] #[]
 | 7 => v = .iface T pv
 | _ => True
theorem men1_2F_stable {mg d sa T pv} : ∀ ix v w w', men1_2F mg d sa T pv ix v w → Kept [] w w' → men1_2F mg d sa T pv ix v w':=by
 intro ix v w w' h k
 unfold men1_2F at h ⊢
 split at h <;> (first | (exact h))
def men1_11F (mg _d : Nat) (_sa : Addr) (T : TypeId) (pv : Value) (ix : Nat) (v : Value) (_ : World) : Prop :=
 match ix with
 | 0 => v = .iface T pv
 | 1 => v = .pointer (some ⟨mg, 0, none⟩)
 | 2 => v = .pointer (some ⟨mg, 0, none⟩)
 | 3 => v = .pointer (some ⟨mg, 3, none⟩)
 | 4 => v = .slice none 0 0
 | 5 => v = .func (.method "pub-kestrel/pub/sarama.putBytes") #[.iface T pv] #[]
 | 6 => v = .func (.method "pub-kestrel/pub/sarama.putBytes") #[.iface T pv] #[]
 | 7 => v = .iface T pv
 | _ => True
theorem men1_11F_stable {mg d sa T pv} : ∀ ix v w w', men1_11F mg d sa T pv ix v w → Kept [] w w' → men1_11F mg d sa T pv ix v w':=by
 intro ix v w w' h k
 unfold men1_11F at h ⊢
 split at h <;> (first | (exact h))
def men1_19F (mg d : Nat) (sa : Addr) (_T : TypeId) (_pv : Value) (ix : Nat) (v : Value) (_ : World) : Prop :=
 match ix with
 | 0 => v = .pointer (some ⟨mg, 0, none⟩)
 | 1 => v = .pointer (some ⟨mg, 0, none⟩)
 | 2 => v = .pointer (some ⟨mg, 0, none⟩)
 | 3 => v = .int .i8 0
 | 4 => v = .pointer (some ⟨mg, 0, none⟩)
 | 5 => v = .pointer (some ⟨mg, 0, none⟩)
 | 6 => v = .pointer (some ⟨mg, 1, none⟩)
 | 7 => v = .int .i64 0
 | 8 => v = .pointer (some ⟨mg, 0, none⟩)
 | 9 => v = .pointer (some ⟨mg, 0, none⟩)
 | 10 => v = .pointer (some ⟨mg, 4, none⟩)
 | 11 => v = .slice (some sa) 1 d
 | 12 => v = .tuple #[.slice (some sa) 1 d, .nilIface]
 | 13 => v = .tuple #[.slice (some sa) 1 d, .nilIface]
 | 14 => v = .slice (some sa) 1 d
 | 15 => v = .nilIface
 | 16 => v = .slice (some sa) 1 d
 | _ => True
theorem men1_19F_stable {mg d sa T pv} : ∀ ix v w w', men1_19F mg d sa T pv ix v w → Kept [] w w' → men1_19F mg d sa T pv ix v w':=by
 intro ix v w w' h k
 unfold men1_19F at h ⊢
 split at h <;> (first | (exact h))
theorem msgEnc1 {T : TypeId} {pv : Value} {S : List Nat} {Q : Nat → World → Prop} (mg d : Nat) (sa : Addr) (w : World) (hm : MsgAt mg sa d (.slice none 0 0) (.int .i64 0) w) (hpp : ∀ W g, Kept [] w W → SumAt g 0 0 W → w.heap.size ≤ g → PushPopM T pv (.iface 296 (.pointer (some ⟨g, 0, none⟩))) (SumAt g 0 0) g S mg [0, 0, 0, 0] [0, 0, 0, 0, 0, 0, 255, 255, 255, 255, 0, 0, 0, 1, 97] (Q g) W) (hna : ∀ W, (nilAhead 483 T pv "pub-kestrel/pub/sarama.push").run Tryz.prog W = .ok (some false) W) (hSS : ∀ s ∈ S, s < w.heap.size) (hmS : mg ∉ S) (haS : sa.block ∉ S) (ham : sa.block ≠ mg) (hal : sa.block < w.heap.size) (hsl : SlIs w 1 (some sa) 1 (Lib.byteCells [97])) : Calls Tryz.prog 124 #[.pointer (some ⟨mg, 0, none⟩), .iface T pv] w (fun e w' => e = .returned .nilIface ∧ ∃ g, w.heap.size ≤ g ∧ Q g w' ∧ MsgAt mg sa d (.slice (some sa) 1 d) (.int .i64 1) w' ∧ Kept (mg :: g :: S) w w'):=by
 have HM:=lh hm
 have HPP:=lh hpp
 have HNA0 : Hid (∀ W, Kept [] w W → (nilAhead 483 T pv "pub-kestrel/pub/sarama.push").run Tryz.prog W = .ok (some false) W):=lh fun W _ => hna W
 have HSS:=lh hSS
 have HMS:=lh hmS
 have HAS:=lh haS
 have HAM:=lh ham
 have HAL:=lh hal
 have HA:=lh hsl
 clear hm hpp hna hSS hmS haS ham hal hsl
 obtain ⟨z, hz⟩ : ∃ z, w.heap.size = z:=⟨_, rfl⟩
 have HZ:=lh hz
 clear hz
 go_enter Tryz.func124, Tryz.ntmps124
 go_wp2
 refine wp_region_facts' 6 (Kept []) (men1_1F mg d sa T pv z) mixed (by kernel_rfl) (Kept.refl _ _).drew (fun _ _ _ h k => h.trans k (fun x hx => .inl hx)) men1_1F_stable ?_ ?_
 ·refine ⟨?_, ?_, ?_, ?_, ?_, ?_, trivial⟩
  all_goals go_light
  all_goals intro a W hR hs hd
  all_goals have p0 : a.tmps[0]? = some (.pointer (some ⟨mg, 0, none⟩)):=hs.2.2 0 (by decide)
  all_goals have p1 : a.tmps[1]? = some (.iface T pv):=hs.2.2 1 (by decide)
  all_goals have hRr : Kept [] W W:=Kept.refl _ _
  all_goals have hna_push:=HNA0.out W hR
  ·refine ov W (.iface T pv) ?_ (.mk hRr rfl rfl)
   simp [go_sem, p1]
  ·refine ow_call (w':=W) (f:=130) (args:=#[.int .i8 0]) (by simp [go_sem]) (newCrc 0 W) ?_
   rintro e w' ⟨g, rfl, h2, h3, h4, hk1⟩
   exact ⟨_, rfl, .mk hk1 ⟨g, rfl, h2, by have h8:=hR.size; have h7:=HZ.out; omega, h4⟩ rfl⟩
  ·have q1:=hd.1 rfl
   obtain ⟨g, q1, h2, h3, h4⟩:=q1
   change _ = _ at q1
   refine ov W (.iface 296 (.pointer (some ⟨g, 0, none⟩))) ?_ (.mk hRr ⟨g, rfl, h2, h3, h4⟩ rfl)
   simp [go_sem, q1]
  ·have q0 : _ = _:=hd.1 rfl
   refine ov W (.func (.method "pub-kestrel/pub/sarama.push") #[.iface T pv] #[]) ?_ (.mk hRr rfl rfl)
   simp [go_sem, q0]
  ·have q3 : _ = _:=hd.1 rfl
   refine ov W (.func (.method "pub-kestrel/pub/sarama.push") #[.iface T pv] #[]) ?_ (.mk hRr rfl rfl)
   simp [go_sem, q3, hna_push]
  ·have q0 : _ = _:=hd.1 rfl
   have q3 : _ = _:=hd.2.1 rfl
   have q4 : _ = _:=hd.2.2.1 rfl
   refine ov W (.iface T pv) ?_ (.mk hRr rfl rfl)
   simp [go_sem, q0]
 ·intro f V1 hR hf
  obtain ⟨f0, f1, f2, f3, f4, f5, -⟩:=hf
  change f 9 = _ at f0
  change ∃ g, (f 10) = .pointer (some ⟨g, 0, none⟩) ∧ SumAt g 0 0 V1 ∧ z ≤ g ∧ g < V1.heap.size at f1
  obtain ⟨x1, g1⟩ : ∃ x, f 10 = x:=⟨_, rfl⟩
  rw [g1] at f1
  change ∃ g, (f 11) = .iface 296 (.pointer (some ⟨g, 0, none⟩)) ∧ SumAt g 0 0 V1 ∧ z ≤ g ∧ g < V1.heap.size at f2
  obtain ⟨x2, g2⟩ : ∃ x, f 11 = x:=⟨_, rfl⟩
  rw [g2] at f2
  change f 12 = _ at f3
  change f 13 = _ at f4
  change f 14 = _ at f5
  simp only [headDsts, List.take_succ_cons, List.take_zero, List.filterMap_cons, List.filterMap_nil, setAll, f0, g1, g2, f3, f4, f5, List.setIfInBounds_toArray, List.set_cons_succ, List.set_cons_zero, List.drop_succ_cons, List.drop_zero]
  clear f0 g1 g2 f3 f4 f5 f
  obtain ⟨g, rfl, hs, hz, hgl⟩:=f2
  clear f1
  have HR:=lh hR
  have HGZ : Hid (w.heap.size ≤ g):=lh (by have h7:=HZ.out; omega)
  have HGM : Hid (mg ≠ g):=lh (by have h7:=HGZ.out; have h8:=HM.out.lt; omega)
  have HPG:=lh (HPP.out V1 g hR hs HGZ.out)
  have HGS : Hid (g ∉ S):=lh (fun hx => by have h7:=HGZ.out; have h8:=HSS.out g hx; omega)
  have HMGS : Hid (mg ∉ g :: S):=lh (by simp; exact ⟨HGM.out, HMS.out⟩)
  have HAGS : Hid (sa.block ∉ g :: S):=lh (by simp; exact ⟨(fun hx => by have h7:=HGZ.out; have h8:=HAL.out; omega), HAS.out⟩)
  clear hR hs hz hgl
  go_wp2_with (refine wl_invoke rfl _ _ _ _ rfl T pv (by simp [go_sem]) "push" nm_push [.iface 296 (.pointer (some ⟨g, 0, none⟩))] (by simp [go_sem]) _ HPG.out ?_; rintro e w1 ⟨rfl, hG, hk1, At, cap, hcap, E, hst, hat, hpop⟩; refine ⟨_, rfl, ?_⟩; have HK1:=lh (HR.out.mono (T:=g :: S) (by simp) |>.trans hk1 (fun x hx => .inl hx)); have HE:=lh E; have HST:=lh hst; have HAT1:=lh hat; have HPOP:=lh hpop; have HCAP : Hid (15 ≤ cap):=lh hcap; have HS1:=lh (Kept.refl (mg :: S) w1); have HM1:=lh (HM.out.keep HK1.out HMGS.out); have HA1:=lh (HA.out.kept HK1.out (fun b hb => by cases hb; exact HAGS.out)); clear hG hk1 E hst hat hpop hcap)
  simp only [Act.put, List.setIfInBounds_toArray, List.set_cons_succ, List.set_cons_zero]
  have HNA1 : Hid (∀ W, Kept [] w1 W → (nilAhead 483 T pv "pub-kestrel/pub/sarama.putInt8").run Tryz.prog W = .ok (some false) W):=lh fun W hk => Inv.naf nm_putInt8 (HE.out.int8 [0, 0, 0, 0] _ 0 (HE.out.keep _ _ _ HAT1.out hk) (by have h8:=HCAP.out; simp only [List.length_cons, List.length_nil]; omega))
  refine wp_region_facts' 8 (Kept []) (men1_2F mg d sa T pv) mixed (by kernel_rfl) (Kept.refl _ _).drew (fun _ _ _ h k => h.trans k (fun x hx => .inl hx)) men1_2F_stable ?_ ?_
  ·refine ⟨?_, ?_, ?_, ?_, ?_, ?_, ?_, ?_, trivial⟩
   all_goals go_light
   all_goals intro a W hR hs hd
   all_goals have p0 : a.tmps[0]? = some (.pointer (some ⟨mg, 0, none⟩)):=hs.2.2 0 (by decide)
   all_goals have p1 : a.tmps[1]? = some (.iface T pv):=hs.2.2 1 (by decide)
   all_goals have hRr : Kept [] W W:=Kept.refl _ _
   all_goals have m_mg_6 : W.cell? ⟨mg, 6, none⟩ = some (.int .i8 0):=hR.cell (HM1.out.cell 6 _ rfl) (by simp)
   all_goals have hna_putInt8:=HNA1.out W hR
   ·refine ov W (.iface T pv) ?_ (.mk hRr rfl rfl)
    simp [go_sem, p1]
   ·refine ov W (.pointer (some ⟨mg, 0, none⟩)) ?_ (.mk hRr rfl rfl)
    simp [go_sem, p0]
   ·have q1 : _ = _:=hd.1 rfl
    refine ov W (.pointer (some ⟨mg, 0, none⟩)) ?_ (.mk hRr rfl rfl)
    simp [go_sem, q1]
   ·have q2 : _ = _:=hd.1 rfl
    refine ov W (.pointer (some ⟨mg, 6, none⟩)) ?_ (.mk hRr rfl rfl)
    simp [go_sem, q2]
   ·have q3 : _ = _:=hd.1 rfl
    refine ov W (.int .i8 0) ?_ (.mk hRr rfl rfl)
    simp [go_sem, q3, m_mg_6]
   ·have q0 : _ = _:=hd.1 rfl
    refine ov W (.func (.method "pub-kestrel/pub/sarama.putInt8") #[.iface T pv] #[]) ?_ (.mk hRr rfl rfl)
    simp [go_sem, q0]
   ·have q5 : _ = _:=hd.1 rfl
    refine ov W (.func (.method "pub-kestrel/pub/sarama.putInt8") #[.iface T pv] #[]) ?_ (.mk hRr rfl rfl)
    simp [go_sem, q5, hna_putInt8]
   ·have q0 : _ = _:=hd.1 rfl
    have q5 : _ = _:=hd.2.1 rfl
    have q6 : _ = _:=hd.2.2.1 rfl
    refine ov W (.iface T pv) ?_ (.mk hRr rfl rfl)
    simp [go_sem, q0]
  ·intro f V2 hR hf
   obtain ⟨f0, f1, f2, f3, f4, f5, f6, f7, -⟩:=hf
   change f 16 = _ at f0
   change f 17 = _ at f1
   change f 18 = _ at f2
   change f 19 = _ at f3
   change f 20 = _ at f4
   change f 21 = _ at f5
   change f 22 = _ at f6
   change f 23 = _ at f7
   simp only [headDsts, List.take_succ_cons, List.take_zero, List.filterMap_cons, List.filterMap_nil, setAll, f0, f1, f2, f3, f4, f5, f6, f7, List.setIfInBounds_toArray, List.set_cons_succ, List.set_cons_zero, List.drop_succ_cons, List.drop_zero]
   clear f0 f1 f2 f3 f4 f5 f6 f7 f
   have HRX1:=lh (hR.mono (T:=S) (by simp))
   have HAV1:=lh (HE.out.keep _ _ _ HAT1.out hR)
   clear hR
   go_wp2_with (first
    | (refine wl_invoke rfl _ _ _ _ rfl T pv (by simp [go_sem]) "putInt8" nm_putInt8 [.int .i8 0] (by simp [go_sem]) _ (HE.out.int8 [0, 0, 0, 0] _ 0 HAV1.out (by have h8:=HCAP.out; simp only [List.length_cons, List.length_nil]; omega)) ?_; rintro e w2 ⟨rfl, ha, hk⟩; refine ⟨_, rfl, ?_⟩; have HAT2:=lh (show At [0, 0, 0, 0, 0] w2 by have h9:=ha; rw [big10] at h9; exact h9); have HX2:=lh (HRX1.out.trans hk (fun x hx => .inl hx)); have HS2:=lh (HS1.out.trans (HX2.out.mono (fun x hx => List.mem_cons_of_mem _ hx)) (fun x hx => .inl hx)); have HM2:=lh (HM1.out.keep HX2.out HMS.out); have HA2:=lh (HA1.out.kept HX2.out (fun b hb => by cases hb; exact HAS.out)); have hc0:=HM2.out.cell 0 _ rfl; have hc2:=HM2.out.cell 2 _ rfl; have HRX2:=lh (Kept.refl S w2); clear ha hk)
    | (refine wl_invoke rfl _ _ _ _ rfl T pv (by simp [go_sem]) "putInt8" nm_putInt8 [.int .i8 0] (by simp [go_sem, band07]) _ (HE.out.int8 [0, 0, 0, 0, 0] _ 0 HAT2.out (by have h8:=HCAP.out; simp only [List.length_cons, List.length_nil]; omega)) ?_; rintro e w3 ⟨rfl, ha, hk⟩; refine ⟨_, rfl, ?_⟩; have HAT3:=lh (show At [0, 0, 0, 0, 0, 0] w3 by have h9:=ha; rw [big10] at h9; exact h9); have HX3:=lh (HRX2.out.trans hk (fun x hx => .inl hx)); have HS3:=lh (HS2.out.trans (HX3.out.mono (fun x hx => List.mem_cons_of_mem _ hx)) (fun x hx => .inl hx)); have HM3:=lh (HM2.out.keep HX3.out HMS.out); have HA3:=lh (HA2.out.kept HX3.out (fun b hb => by cases hb; exact HAS.out)); have hc6:=HM3.out.cell 6 _ rfl; clear hc0 hc2; clear ha hk))
   clear hc6
   have HNA3 : Hid (∀ W, Kept [] w3 W → (nilAhead 483 T pv "pub-kestrel/pub/sarama.putBytes").run Tryz.prog W = .ok (some false) W):=lh fun W hk => Inv.naf nm_putBytes (HE.out.nil [0, 0, 0, 0, 0, 0] _ 0 (HE.out.keep _ _ _ HAT3.out hk) (by have h8:=HCAP.out; rw [lenm]; simp only [List.length_cons, List.length_nil]; omega))
   refine wp_region_facts' 8 (Kept []) (men1_11F mg d sa T pv) mixed (by kernel_rfl) (Kept.refl _ _).drew (fun _ _ _ h k => h.trans k (fun x hx => .inl hx)) men1_11F_stable ?_ ?_
   ·refine ⟨?_, ?_, ?_, ?_, ?_, ?_, ?_, ?_, trivial⟩
    all_goals go_light
    all_goals intro a W hR hs hd
    all_goals have p0 : a.tmps[0]? = some (.pointer (some ⟨mg, 0, none⟩)):=hs.2.2 0 (by decide)
    all_goals have p1 : a.tmps[1]? = some (.iface T pv):=hs.2.2 1 (by decide)
    all_goals have hRr : Kept [] W W:=Kept.refl _ _
    all_goals have m_mg_3 : W.cell? ⟨mg, 3, none⟩ = some (.slice none 0 0):=hR.cell (HM3.out.cell 3 _ rfl) (by simp)
    all_goals have hna_putBytes:=HNA3.out W hR
    ·refine ov W (.iface T pv) ?_ (.mk hRr rfl rfl)
     simp [go_sem, p1]
    ·refine ov W (.pointer (some ⟨mg, 0, none⟩)) ?_ (.mk hRr rfl rfl)
     simp [go_sem, p0]
    ·have q1 : _ = _:=hd.1 rfl
     refine ov W (.pointer (some ⟨mg, 0, none⟩)) ?_ (.mk hRr rfl rfl)
     simp [go_sem, q1]
    ·have q2 : _ = _:=hd.1 rfl
     refine ov W (.pointer (some ⟨mg, 3, none⟩)) ?_ (.mk hRr rfl rfl)
     simp [go_sem, q2]
    ·have q3 : _ = _:=hd.1 rfl
     refine ov W (.slice none 0 0) ?_ (.mk hRr rfl rfl)
     simp [go_sem, q3, m_mg_3]
    ·have q0 : _ = _:=hd.1 rfl
     refine ov W (.func (.method "pub-kestrel/pub/sarama.putBytes") #[.iface T pv] #[]) ?_ (.mk hRr rfl rfl)
     simp [go_sem, q0]
    ·have q5 : _ = _:=hd.1 rfl
     refine ov W (.func (.method "pub-kestrel/pub/sarama.putBytes") #[.iface T pv] #[]) ?_ (.mk hRr rfl rfl)
     simp [go_sem, q5, hna_putBytes]
    ·have q0 : _ = _:=hd.1 rfl
     have q5 : _ = _:=hd.2.1 rfl
     have q6 : _ = _:=hd.2.2.1 rfl
     refine ov W (.iface T pv) ?_ (.mk hRr rfl rfl)
     simp [go_sem, q0]
   ·intro f V4 hR hf
    obtain ⟨f0, f1, f2, f3, f4, f5, f6, f7, -⟩:=hf
    change f 53 = _ at f0
    change f 54 = _ at f1
    change f 55 = _ at f2
    change f 56 = _ at f3
    change f 57 = _ at f4
    change f 58 = _ at f5
    change f 59 = _ at f6
    change f 60 = _ at f7
    simp only [headDsts, List.take_succ_cons, List.take_zero, List.filterMap_cons, List.filterMap_nil, setAll, f0, f1, f2, f3, f4, f5, f6, f7, List.setIfInBounds_toArray, List.set_cons_succ, List.set_cons_zero, List.drop_succ_cons, List.drop_zero]
    clear f0 f1 f2 f3 f4 f5 f6 f7 f
    have HRX3:=lh (hR.mono (T:=S) (by simp))
    have HAV3:=lh (HE.out.keep _ _ _ HAT3.out hR)
    clear hR
    go_wp2_with (refine wl_invoke rfl _ _ _ _ rfl T pv (by simp [go_sem]) "putBytes" nm_putBytes [.slice none 0 0] (by simp [go_sem, band07]) _ (HE.out.nil [0, 0, 0, 0, 0, 0] _ 0 HAV3.out (by have h8:=HCAP.out; rw [lenm]; simp only [List.length_cons, List.length_nil]; omega)) ?_; rintro e w4 ⟨rfl, ha, hk⟩; refine ⟨_, rfl, ?_⟩; have HAT4:=lh (show At [0, 0, 0, 0, 0, 0, 255, 255, 255, 255] w4 by have h9:=ha; rw [lenm] at h9; exact h9); have HX4:=lh (HRX3.out.trans hk (fun x hx => .inl hx)); have HS4:=lh (HS3.out.trans (HX4.out.mono (fun x hx => List.mem_cons_of_mem _ hx)) (fun x hx => .inl hx)); have HM4:=lh (HM3.out.keep HX4.out HMS.out); have HA4:=lh (HA3.out.kept HX4.out (fun b hb => by cases hb; exact HAS.out)); have hc9:=HM4.out.cell 9 _ rfl; have hc4:=HM4.out.cell 4 _ rfl; have hf9:=HM4.out.frozen 9; have hf10:=HM4.out.frozen 10; have HRX4:=lh (Kept.refl S w4); clear ha hk)
    refine wp_region_facts' 17 (Kept []) (men1_19F mg d sa T pv) mixed (by kernel_rfl) (Kept.refl _ _).drew (fun _ _ _ h k => h.trans k (fun x hx => .inl hx)) men1_19F_stable ?_ ?_
    ·refine ⟨?_, ?_, ?_, ?_, ?_, ?_, ?_, ?_, ?_, ?_, ?_, ?_, ?_, ?_, ?_, ?_, ?_, trivial⟩
     all_goals go_light
     all_goals intro a W hR hs hd
     all_goals have p0 : a.tmps[0]? = some (.pointer (some ⟨mg, 0, none⟩)):=hs.2.2 0 (by decide)
     all_goals have p1 : a.tmps[1]? = some (.iface T pv):=hs.2.2 1 (by decide)
     all_goals have hRr : Kept [] W W:=Kept.refl _ _
     all_goals have m_mg_0 : W.cell? ⟨mg, 0, none⟩ = some (.int .i8 0):=hR.cell (HM4.out.cell 0 _ rfl) (by simp)
     all_goals have m_mg_1 : W.cell? ⟨mg, 1, none⟩ = some (.int .i64 0):=hR.cell (HM4.out.cell 1 _ rfl) (by simp)
     all_goals have m_mg_4 : W.cell? ⟨mg, 4, none⟩ = some (.slice (some sa) 1 d):=hR.cell (HM4.out.cell 4 _ rfl) (by simp)
     ·refine ov W (.pointer (some ⟨mg, 0, none⟩)) ?_ (.mk hRr rfl rfl)
      simp [go_sem, p0]
     ·have q0 : _ = _:=hd.1 rfl
      refine ov W (.pointer (some ⟨mg, 0, none⟩)) ?_ (.mk hRr rfl rfl)
      simp [go_sem, q0]
     ·have q1 : _ = _:=hd.1 rfl
      refine ov W (.pointer (some ⟨mg, 0, none⟩)) ?_ (.mk hRr rfl rfl)
      simp [go_sem, q1]
     ·have q2 : _ = _:=hd.1 rfl
      refine ov W (.int .i8 0) ?_ (.mk hRr rfl rfl)
      simp [go_sem, q2, m_mg_0]
     ·refine ov W (.pointer (some ⟨mg, 0, none⟩)) ?_ (.mk hRr rfl rfl)
      simp [go_sem, p0]
     ·have q4 : _ = _:=hd.1 rfl
      refine ov W (.pointer (some ⟨mg, 0, none⟩)) ?_ (.mk hRr rfl rfl)
      simp [go_sem, q4]
     ·have q5 : _ = _:=hd.1 rfl
      refine ov W (.pointer (some ⟨mg, 1, none⟩)) ?_ (.mk hRr rfl rfl)
      simp [go_sem, q5]
     ·have q6 : _ = _:=hd.1 rfl
      refine ov W (.int .i64 0) ?_ (.mk hRr rfl rfl)
      simp [go_sem, q6, m_mg_1]
     ·refine ov W (.pointer (some ⟨mg, 0, none⟩)) ?_ (.mk hRr rfl rfl)
      simp [go_sem, p0]
     ·have q8 : _ = _:=hd.1 rfl
      refine ov W (.pointer (some ⟨mg, 0, none⟩)) ?_ (.mk hRr rfl rfl)
      simp [go_sem, q8]
     ·have q9 : _ = _:=hd.1 rfl
      refine ov W (.pointer (some ⟨mg, 4, none⟩)) ?_ (.mk hRr rfl rfl)
      simp [go_sem, q9]
     ·have q10 : _ = _:=hd.1 rfl
      refine ov W (.slice (some sa) 1 d) ?_ (.mk hRr rfl rfl)
      simp [go_sem, q10, m_mg_4]
     ·have q3 : _ = _:=hd.1 rfl
      have q7 : _ = _:=hd.2.1 rfl
      have q11 : _ = _:=hd.2.2.1 rfl
      refine ow_call (w':=W) (f:=132) (args:=#[.int .i8 0, .int .i64 0, .slice (some sa) 1 d]) (by simp [go_sem, q3, q7, q11]) (compress0 (.int .i64 0) (.slice (some sa) 1 d) W) ?_
      rintro e w' ⟨rfl, hk1⟩
      exact ⟨_, rfl, .mk hk1 rfl rfl⟩
     ·have q12 : _ = _:=hd.1 rfl
      refine ov W (.tuple #[.slice (some sa) 1 d, .nilIface]) ?_ (.mk hRr rfl rfl)
      simp [go_sem, q12]
     ·have q13 : _ = _:=hd.1 rfl
      refine ov W (.slice (some sa) 1 d) ?_ (.mk hRr rfl rfl)
      simp [go_sem, q13]
     ·have q13 : _ = _:=hd.1 rfl
      refine ov W .nilIface ?_ (.mk hRr rfl rfl)
      simp [go_sem, q13]
     ·have q14 : _ = _:=hd.1 rfl
      refine ov W (.slice (some sa) 1 d) ?_ (.mk hRr rfl rfl)
      simp [go_sem, q14]
    ·intro f V5 hR hf
     obtain ⟨f0, f1, f2, f3, f4, f5, f6, f7, f8, f9, f10, f11, f12, f13, f14, f15, f16, -⟩:=hf
     change f 83 = _ at f0
     change f 84 = _ at f1
     change f 85 = _ at f2
     change f 86 = _ at f3
     change f 87 = _ at f4
     change f 88 = _ at f5
     change f 89 = _ at f6
     change f 90 = _ at f7
     change f 91 = _ at f8
     change f 92 = _ at f9
     change f 93 = _ at f10
     change f 94 = _ at f11
     change f 95 = _ at f12
     change f 82 = _ at f13
     change f 96 = _ at f14
     change f 97 = _ at f15
     change f 8 = _ at f16
     simp only [headDsts, List.take_succ_cons, List.take_zero, List.filterMap_cons, List.filterMap_nil, setAll, f0, f1, f2, f3, f4, f5, f6, f7, f8, f9, f10, f11, f12, f13, f14, f15, f16, List.setIfInBounds_toArray, List.set_cons_succ, List.set_cons_zero, List.drop_succ_cons, List.drop_zero]
     clear f0 f1 f2 f3 f4 f5 f6 f7 f8 f9 f10 f11 f12 f13 f14 f15 f16 f
     have HMV:=lh (HM4.out.keep hR (by simp))
     have HRX:=lh hR
     have hd9:=HMV.out.cell 9 _ rfl
     have hdf:=HMV.out.frozen 9
     have hd10:=(HMV.out.set9 (.slice (some sa) 1 d)).cell 10 _ rfl
     have hdg:=(HMV.out.set9 (.slice (some sa) 1 d)).frozen 10
     clear hR hc9 hc4 hf9 hf10
     have HM5 : Hid (MsgAt mg sa d (.slice (some sa) 1 d) (.int .i64 1) ((V5.setCell ⟨mg, 9, none⟩ (.slice (some sa) 1 d)).setCell ⟨mg, 10, none⟩ (.int .i64 1))):=lh ((HMV.out.set9 _).set10 _)
     have HXM : Hid (Kept [mg] w4 ((V5.setCell ⟨mg, 9, none⟩ (.slice (some sa) 1 d)).setCell ⟨mg, 10, none⟩ (.int .i64 1))):=lh (((HRX.out.mono (by simp)).trans (kept_set mg 9 _ _) (fun x hx => .inl hx)).trans (kept_set mg 10 _ _) (fun x hx => .inl hx))
     have HAT5 : Hid (At [0, 0, 0, 0, 0, 0, 255, 255, 255, 255] ((V5.setCell ⟨mg, 9, none⟩ (.slice (some sa) 1 d)).setCell ⟨mg, 10, none⟩ (.int .i64 1))):=lh (HST.out _ _ _ HAT4.out HXM.out)
     have HS5 : Hid (Kept (mg :: S) w1 ((V5.setCell ⟨mg, 9, none⟩ (.slice (some sa) 1 d)).setCell ⟨mg, 10, none⟩ (.int .i64 1))):=lh (HS4.out.trans (HXM.out.mono (by simp)) (fun x hx => .inl hx))
     have HA5:=lh (HA4.out.kept HXM.out (fun b hb => by cases hb; simpa using HAM.out))
     have HRX5 : Hid (Kept S ((V5.setCell ⟨mg, 9, none⟩ (.slice (some sa) 1 d)).setCell ⟨mg, 10, none⟩ (.int .i64 1)) ((V5.setCell ⟨mg, 9, none⟩ (.slice (some sa) 1 d)).setCell ⟨mg, 10, none⟩ (.int .i64 1))):=lh (Kept.refl _ _)
     go_wp2_with (first
      | (refine wl_invoke rfl _ _ _ _ rfl T pv (by simp [go_sem]) "putBytes" nm_putBytes [.slice (some sa) 1 d] (by simp [go_sem, band07]) _ (HE.out.bytes [0, 0, 0, 0, 0, 0, 255, 255, 255, 255] _ [97] sa d (by simp) HA5.out (fun _ => HAS.out) HAT5.out (by have h8:=HCAP.out; rw [len97]; simp only [List.length_append, List.length_cons, List.length_nil]; omega)) ?_; rintro e w6 ⟨rfl, ha, hk⟩; refine ⟨_, rfl, ?_⟩; have HAT6:=lh (show At [0, 0, 0, 0, 0, 0, 255, 255, 255, 255, 0, 0, 0, 1, 97] w6 by have h9:=ha; rw [len97] at h9; exact h9); have HX6:=lh (HRX5.out.trans hk (fun x hx => .inl hx)); have HS6:=lh (HS5.out.trans (HX6.out.mono (fun x hx => List.mem_cons_of_mem _ hx)) (fun x hx => .inl hx)); have HM6:=lh (HM5.out.keep HX6.out HMS.out); have HA6:=lh (HA5.out.kept HX6.out (fun b hb => by cases hb; exact HAS.out)); clear ha hk)
      | (refine wl_invoke rfl _ _ _ _ rfl T pv (by simp [go_sem]) "pop" nm_pop [] (by simp [go_sem]) _ (HPOP.out w6 HS6.out HAT6.out) ?_; rintro e w7 ⟨rfl, hq, hk⟩; refine ⟨_, rfl, ?_⟩; have HQ:=lh hq; have HK7:=lh hk; clear hq hk))
     go_ret
     exact ⟨rfl, g, HGZ.out, HQ.out, HM6.out.keep HK7.out HMGS.out, ((HK1.out.mono (fun x hx => List.mem_cons_of_mem _ hx)).trans (HS6.out.mono (fun x hx => by rcases List.mem_cons.1 hx with h | h <;> simp [h])) (fun x hx => .inl hx)).trans (HK7.out.mono (fun x hx => List.mem_cons_of_mem _ hx)) (fun x hx => .inl hx)⟩
def men2_1F (_mg _d : Nat) (_sa : Addr) (T : TypeId) (pv : Value) (z : Nat) (ix : Nat) (v : Value) (W : World) : Prop :=
 match ix with
 | 0 => v = .iface T pv
 | 1 => ∃ g, v = .pointer (some ⟨g, 0, none⟩) ∧ SumAt g 0 0 W ∧ z ≤ g ∧ g < W.heap.size
 | 2 => ∃ g, v = .iface 296 (.pointer (some ⟨g, 0, none⟩)) ∧ SumAt g 0 0 W ∧ z ≤ g ∧ g < W.heap.size
 | 3 => v = .func (.method "pub-kestrel/pub/sarama.push") #[.iface T pv] #[]
 | 4 => v = .func (.method "pub-kestrel/pub/sarama.push") #[.iface T pv] #[]
 | 5 => v = .iface T pv
 | _ => True
theorem men2_1F_stable {mg d sa T pv z} : ∀ ix v w w', men2_1F mg d sa T pv z ix v w → Kept [] w w' → men2_1F mg d sa T pv z ix v w':=by
 intro ix v w w' h k
 unfold men2_1F at h ⊢
 split at h <;> (first | (exact h) | (obtain ⟨g, h1, h2, h3, h4⟩:=h; exact ⟨g, h1, h2.keep k (by simp), h3, lt_kept k _ h4⟩))
def men2_2F (mg _d : Nat) (_sa : Addr) (T : TypeId) (pv : Value) (ix : Nat) (v : Value) (_ : World) : Prop :=
 match ix with
 | 0 => v = .iface T pv
 | 1 => v = .pointer (some ⟨mg, 0, none⟩)
 | 2 => v = .pointer (some ⟨mg, 0, none⟩)
 | 3 => v = .pointer (some ⟨mg, 6, none⟩)
 | 4 => v = .int .i8 0
 | 5 => v = .func (.method "pub-kestrel/pub/sarama.putInt8") #[.iface T pv] #[]
 | 6 => v = .func (.method "pub-kestrel/pub/sarama.putInt8") #[.iface T pv] #[]
 | 7 => v = .iface T pv
 | _ => True
theorem men2_2F_stable {mg d sa T pv} : ∀ ix v w w', men2_2F mg d sa T pv ix v w → Kept [] w w' → men2_2F mg d sa T pv ix v w':=by
 intro ix v w w' h k
 unfold men2_2F at h ⊢
 split at h <;> (first | (exact h))
def men2_11F (mg _d : Nat) (_sa : Addr) (T : TypeId) (pv : Value) (ix : Nat) (v : Value) (_ : World) : Prop :=
 match ix with
 | 0 => v = .iface T pv
 | 1 => v = .pointer (some ⟨mg, 0, none⟩)
 | 2 => v = .pointer (some ⟨mg, 0, none⟩)
 | 3 => v = .pointer (some ⟨mg, 3, none⟩)
 | 4 => v = .slice none 0 0
 | 5 => v = .func (.method "pub-kestrel/pub/sarama.putBytes") #[.iface T pv] #[]
 | 6 => v = .func (.method "pub-kestrel/pub/sarama.putBytes") #[.iface T pv] #[]
 | 7 => v = .iface T pv
 | _ => True
theorem men2_11F_stable {mg d sa T pv} : ∀ ix v w w', men2_11F mg d sa T pv ix v w → Kept [] w w' → men2_11F mg d sa T pv ix v w':=by
 intro ix v w w' h k
 unfold men2_11F at h ⊢
 split at h <;> (first | (exact h))
theorem msgEnc2 {T : TypeId} {pv : Value} {S : List Nat} {Q : Nat → World → Prop} (mg d : Nat) (sa : Addr) (w : World) (hm : MsgAt mg sa d (.slice (some sa) 1 d) (.int .i64 1) w) (hpp : ∀ W g, Kept [] w W → SumAt g 0 0 W → w.heap.size ≤ g → PushPopM T pv (.iface 296 (.pointer (some ⟨g, 0, none⟩))) (SumAt g 0 0) g S mg [0, 0, 0, 0] [0, 0, 0, 0, 0, 0, 255, 255, 255, 255, 0, 0, 0, 1, 97] (Q g) W) (hna : ∀ W, (nilAhead 483 T pv "pub-kestrel/pub/sarama.push").run Tryz.prog W = .ok (some false) W) (hSS : ∀ s ∈ S, s < w.heap.size) (hmS : mg ∉ S) (haS : sa.block ∉ S) (ham : sa.block ≠ mg) (hal : sa.block < w.heap.size) (hsl : SlIs w 1 (some sa) 1 (Lib.byteCells [97])) : Calls Tryz.prog 124 #[.pointer (some ⟨mg, 0, none⟩), .iface T pv] w (fun e w' => e = .returned .nilIface ∧ ∃ g, w.heap.size ≤ g ∧ Q g w' ∧ MsgAt mg sa d (.slice none 0 0) (.int .i64 1) w' ∧ Kept (mg :: g :: S) w w'):=by
 have HM:=lh hm
 have HPP:=lh hpp
 have HNA0 : Hid (∀ W, Kept [] w W → (nilAhead 483 T pv "pub-kestrel/pub/sarama.push").run Tryz.prog W = .ok (some false) W):=lh fun W _ => hna W
 have HSS:=lh hSS
 have HMS:=lh hmS
 have HAS:=lh haS
 have HAM:=lh ham
 have HAL:=lh hal
 have HA:=lh hsl
 clear hm hpp hna hSS hmS haS ham hal hsl
 obtain ⟨z, hz⟩ : ∃ z, w.heap.size = z:=⟨_, rfl⟩
 have HZ:=lh hz
 clear hz
 go_enter Tryz.func124, Tryz.ntmps124
 go_wp2
 refine wp_region_facts' 6 (Kept []) (men2_1F mg d sa T pv z) mixed (by kernel_rfl) (Kept.refl _ _).drew (fun _ _ _ h k => h.trans k (fun x hx => .inl hx)) men2_1F_stable ?_ ?_
 ·refine ⟨?_, ?_, ?_, ?_, ?_, ?_, trivial⟩
  all_goals go_light
  all_goals intro a W hR hs hd
  all_goals have p0 : a.tmps[0]? = some (.pointer (some ⟨mg, 0, none⟩)):=hs.2.2 0 (by decide)
  all_goals have p1 : a.tmps[1]? = some (.iface T pv):=hs.2.2 1 (by decide)
  all_goals have hRr : Kept [] W W:=Kept.refl _ _
  all_goals have hna_push:=HNA0.out W hR
  ·refine ov W (.iface T pv) ?_ (.mk hRr rfl rfl)
   simp [go_sem, p1]
  ·refine ow_call (w':=W) (f:=130) (args:=#[.int .i8 0]) (by simp [go_sem]) (newCrc 0 W) ?_
   rintro e w' ⟨g, rfl, h2, h3, h4, hk1⟩
   exact ⟨_, rfl, .mk hk1 ⟨g, rfl, h2, by have h8:=hR.size; have h7:=HZ.out; omega, h4⟩ rfl⟩
  ·have q1:=hd.1 rfl
   obtain ⟨g, q1, h2, h3, h4⟩:=q1
   change _ = _ at q1
   refine ov W (.iface 296 (.pointer (some ⟨g, 0, none⟩))) ?_ (.mk hRr ⟨g, rfl, h2, h3, h4⟩ rfl)
   simp [go_sem, q1]
  ·have q0 : _ = _:=hd.1 rfl
   refine ov W (.func (.method "pub-kestrel/pub/sarama.push") #[.iface T pv] #[]) ?_ (.mk hRr rfl rfl)
   simp [go_sem, q0]
  ·have q3 : _ = _:=hd.1 rfl
   refine ov W (.func (.method "pub-kestrel/pub/sarama.push") #[.iface T pv] #[]) ?_ (.mk hRr rfl rfl)
   simp [go_sem, q3, hna_push]
  ·have q0 : _ = _:=hd.1 rfl
   have q3 : _ = _:=hd.2.1 rfl
   have q4 : _ = _:=hd.2.2.1 rfl
   refine ov W (.iface T pv) ?_ (.mk hRr rfl rfl)
   simp [go_sem, q0]
 ·intro f V1 hR hf
  obtain ⟨f0, f1, f2, f3, f4, f5, -⟩:=hf
  change f 9 = _ at f0
  change ∃ g, (f 10) = .pointer (some ⟨g, 0, none⟩) ∧ SumAt g 0 0 V1 ∧ z ≤ g ∧ g < V1.heap.size at f1
  obtain ⟨x1, g1⟩ : ∃ x, f 10 = x:=⟨_, rfl⟩
  rw [g1] at f1
  change ∃ g, (f 11) = .iface 296 (.pointer (some ⟨g, 0, none⟩)) ∧ SumAt g 0 0 V1 ∧ z ≤ g ∧ g < V1.heap.size at f2
  obtain ⟨x2, g2⟩ : ∃ x, f 11 = x:=⟨_, rfl⟩
  rw [g2] at f2
  change f 12 = _ at f3
  change f 13 = _ at f4
  change f 14 = _ at f5
  simp only [headDsts, List.take_succ_cons, List.take_zero, List.filterMap_cons, List.filterMap_nil, setAll, f0, g1, g2, f3, f4, f5, List.setIfInBounds_toArray, List.set_cons_succ, List.set_cons_zero, List.drop_succ_cons, List.drop_zero]
  clear f0 g1 g2 f3 f4 f5 f
  obtain ⟨g, rfl, hs, hz, hgl⟩:=f2
  clear f1
  have HR:=lh hR
  have HGZ : Hid (w.heap.size ≤ g):=lh (by have h7:=HZ.out; omega)
  have HGM : Hid (mg ≠ g):=lh (by have h7:=HGZ.out; have h8:=HM.out.lt; omega)
  have HPG:=lh (HPP.out V1 g hR hs HGZ.out)
  have HGS : Hid (g ∉ S):=lh (fun hx => by have h7:=HGZ.out; have h8:=HSS.out g hx; omega)
  have HMGS : Hid (mg ∉ g :: S):=lh (by simp; exact ⟨HGM.out, HMS.out⟩)
  have HAGS : Hid (sa.block ∉ g :: S):=lh (by simp; exact ⟨(fun hx => by have h7:=HGZ.out; have h8:=HAL.out; omega), HAS.out⟩)
  clear hR hs hz hgl
  go_wp2_with (refine wl_invoke rfl _ _ _ _ rfl T pv (by simp [go_sem]) "push" nm_push [.iface 296 (.pointer (some ⟨g, 0, none⟩))] (by simp [go_sem]) _ HPG.out ?_; rintro e w1 ⟨rfl, hG, hk1, At, cap, hcap, E, hst, hat, hpop⟩; refine ⟨_, rfl, ?_⟩; have HK1:=lh (HR.out.mono (T:=g :: S) (by simp) |>.trans hk1 (fun x hx => .inl hx)); have HE:=lh E; have HST:=lh hst; have HAT1:=lh hat; have HPOP:=lh hpop; have HCAP : Hid (15 ≤ cap):=lh hcap; have HS1:=lh (Kept.refl (mg :: S) w1); have HM1:=lh (HM.out.keep HK1.out HMGS.out); have HA1:=lh (HA.out.kept HK1.out (fun b hb => by cases hb; exact HAGS.out)); clear hG hk1 E hst hat hpop hcap)
  simp only [Act.put, List.setIfInBounds_toArray, List.set_cons_succ, List.set_cons_zero]
  have HNA1 : Hid (∀ W, Kept [] w1 W → (nilAhead 483 T pv "pub-kestrel/pub/sarama.putInt8").run Tryz.prog W = .ok (some false) W):=lh fun W hk => Inv.naf nm_putInt8 (HE.out.int8 [0, 0, 0, 0] _ 0 (HE.out.keep _ _ _ HAT1.out hk) (by have h8:=HCAP.out; simp only [List.length_cons, List.length_nil]; omega))
  refine wp_region_facts' 8 (Kept []) (men2_2F mg d sa T pv) mixed (by kernel_rfl) (Kept.refl _ _).drew (fun _ _ _ h k => h.trans k (fun x hx => .inl hx)) men2_2F_stable ?_ ?_
  ·refine ⟨?_, ?_, ?_, ?_, ?_, ?_, ?_, ?_, trivial⟩
   all_goals go_light
   all_goals intro a W hR hs hd
   all_goals have p0 : a.tmps[0]? = some (.pointer (some ⟨mg, 0, none⟩)):=hs.2.2 0 (by decide)
   all_goals have p1 : a.tmps[1]? = some (.iface T pv):=hs.2.2 1 (by decide)
   all_goals have hRr : Kept [] W W:=Kept.refl _ _
   all_goals have m_mg_6 : W.cell? ⟨mg, 6, none⟩ = some (.int .i8 0):=hR.cell (HM1.out.cell 6 _ rfl) (by simp)
   all_goals have hna_putInt8:=HNA1.out W hR
   ·refine ov W (.iface T pv) ?_ (.mk hRr rfl rfl)
    simp [go_sem, p1]
   ·refine ov W (.pointer (some ⟨mg, 0, none⟩)) ?_ (.mk hRr rfl rfl)
    simp [go_sem, p0]
   ·have q1 : _ = _:=hd.1 rfl
    refine ov W (.pointer (some ⟨mg, 0, none⟩)) ?_ (.mk hRr rfl rfl)
    simp [go_sem, q1]
   ·have q2 : _ = _:=hd.1 rfl
    refine ov W (.pointer (some ⟨mg, 6, none⟩)) ?_ (.mk hRr rfl rfl)
    simp [go_sem, q2]
   ·have q3 : _ = _:=hd.1 rfl
    refine ov W (.int .i8 0) ?_ (.mk hRr rfl rfl)
    simp [go_sem, q3, m_mg_6]
   ·have q0 : _ = _:=hd.1 rfl
    refine ov W (.func (.method "pub-kestrel/pub/sarama.putInt8") #[.iface T pv] #[]) ?_ (.mk hRr rfl rfl)
    simp [go_sem, q0]
   ·have q5 : _ = _:=hd.1 rfl
    refine ov W (.func (.method "pub-kestrel/pub/sarama.putInt8") #[.iface T pv] #[]) ?_ (.mk hRr rfl rfl)
    simp [go_sem, q5, hna_putInt8]
   ·have q0 : _ = _:=hd.1 rfl
    have q5 : _ = _:=hd.2.1 rfl
    have q6 : _ = _:=hd.2.2.1 rfl
    refine ov W (.iface T pv) ?_ (.mk hRr rfl rfl)
    simp [go_sem, q0]
  ·intro f V2 hR hf
   obtain ⟨f0, f1, f2, f3, f4, f5, f6, f7, -⟩:=hf
   change f 16 = _ at f0
   change f 17 = _ at f1
   change f 18 = _ at f2
   change f 19 = _ at f3
   change f 20 = _ at f4
   change f 21 = _ at f5
   change f 22 = _ at f6
   change f 23 = _ at f7
   simp only [headDsts, List.take_succ_cons, List.take_zero, List.filterMap_cons, List.filterMap_nil, setAll, f0, f1, f2, f3, f4, f5, f6, f7, List.setIfInBounds_toArray, List.set_cons_succ, List.set_cons_zero, List.drop_succ_cons, List.drop_zero]
   clear f0 f1 f2 f3 f4 f5 f6 f7 f
   have HRX1:=lh (hR.mono (T:=S) (by simp))
   have HAV1:=lh (HE.out.keep _ _ _ HAT1.out hR)
   clear hR
   go_wp2_with (first
    | (refine wl_invoke rfl _ _ _ _ rfl T pv (by simp [go_sem]) "putInt8" nm_putInt8 [.int .i8 0] (by simp [go_sem]) _ (HE.out.int8 [0, 0, 0, 0] _ 0 HAV1.out (by have h8:=HCAP.out; simp only [List.length_cons, List.length_nil]; omega)) ?_; rintro e w2 ⟨rfl, ha, hk⟩; refine ⟨_, rfl, ?_⟩; have HAT2:=lh (show At [0, 0, 0, 0, 0] w2 by have h9:=ha; rw [big10] at h9; exact h9); have HX2:=lh (HRX1.out.trans hk (fun x hx => .inl hx)); have HS2:=lh (HS1.out.trans (HX2.out.mono (fun x hx => List.mem_cons_of_mem _ hx)) (fun x hx => .inl hx)); have HM2:=lh (HM1.out.keep HX2.out HMS.out); have HA2:=lh (HA1.out.kept HX2.out (fun b hb => by cases hb; exact HAS.out)); have hc0:=HM2.out.cell 0 _ rfl; have hc2:=HM2.out.cell 2 _ rfl; have HRX2:=lh (Kept.refl S w2); clear ha hk)
    | (refine wl_invoke rfl _ _ _ _ rfl T pv (by simp [go_sem]) "putInt8" nm_putInt8 [.int .i8 0] (by simp [go_sem, band07]) _ (HE.out.int8 [0, 0, 0, 0, 0] _ 0 HAT2.out (by have h8:=HCAP.out; simp only [List.length_cons, List.length_nil]; omega)) ?_; rintro e w3 ⟨rfl, ha, hk⟩; refine ⟨_, rfl, ?_⟩; have HAT3:=lh (show At [0, 0, 0, 0, 0, 0] w3 by have h9:=ha; rw [big10] at h9; exact h9); have HX3:=lh (HRX2.out.trans hk (fun x hx => .inl hx)); have HS3:=lh (HS2.out.trans (HX3.out.mono (fun x hx => List.mem_cons_of_mem _ hx)) (fun x hx => .inl hx)); have HM3:=lh (HM2.out.keep HX3.out HMS.out); have HA3:=lh (HA2.out.kept HX3.out (fun b hb => by cases hb; exact HAS.out)); have hc6:=HM3.out.cell 6 _ rfl; clear hc0 hc2; clear ha hk))
   clear hc6
   have HNA3 : Hid (∀ W, Kept [] w3 W → (nilAhead 483 T pv "pub-kestrel/pub/sarama.putBytes").run Tryz.prog W = .ok (some false) W):=lh fun W hk => Inv.naf nm_putBytes (HE.out.nil [0, 0, 0, 0, 0, 0] _ 0 (HE.out.keep _ _ _ HAT3.out hk) (by have h8:=HCAP.out; rw [lenm]; simp only [List.length_cons, List.length_nil]; omega))
   refine wp_region_facts' 8 (Kept []) (men2_11F mg d sa T pv) mixed (by kernel_rfl) (Kept.refl _ _).drew (fun _ _ _ h k => h.trans k (fun x hx => .inl hx)) men2_11F_stable ?_ ?_
   ·refine ⟨?_, ?_, ?_, ?_, ?_, ?_, ?_, ?_, trivial⟩
    all_goals go_light
    all_goals intro a W hR hs hd
    all_goals have p0 : a.tmps[0]? = some (.pointer (some ⟨mg, 0, none⟩)):=hs.2.2 0 (by decide)
    all_goals have p1 : a.tmps[1]? = some (.iface T pv):=hs.2.2 1 (by decide)
    all_goals have hRr : Kept [] W W:=Kept.refl _ _
    all_goals have m_mg_3 : W.cell? ⟨mg, 3, none⟩ = some (.slice none 0 0):=hR.cell (HM3.out.cell 3 _ rfl) (by simp)
    all_goals have hna_putBytes:=HNA3.out W hR
    ·refine ov W (.iface T pv) ?_ (.mk hRr rfl rfl)
     simp [go_sem, p1]
    ·refine ov W (.pointer (some ⟨mg, 0, none⟩)) ?_ (.mk hRr rfl rfl)
     simp [go_sem, p0]
    ·have q1 : _ = _:=hd.1 rfl
     refine ov W (.pointer (some ⟨mg, 0, none⟩)) ?_ (.mk hRr rfl rfl)
     simp [go_sem, q1]
    ·have q2 : _ = _:=hd.1 rfl
     refine ov W (.pointer (some ⟨mg, 3, none⟩)) ?_ (.mk hRr rfl rfl)
     simp [go_sem, q2]
    ·have q3 : _ = _:=hd.1 rfl
     refine ov W (.slice none 0 0) ?_ (.mk hRr rfl rfl)
     simp [go_sem, q3, m_mg_3]
    ·have q0 : _ = _:=hd.1 rfl
     refine ov W (.func (.method "pub-kestrel/pub/sarama.putBytes") #[.iface T pv] #[]) ?_ (.mk hRr rfl rfl)
     simp [go_sem, q0]
    ·have q5 : _ = _:=hd.1 rfl
     refine ov W (.func (.method "pub-kestrel/pub/sarama.putBytes") #[.iface T pv] #[]) ?_ (.mk hRr rfl rfl)
     simp [go_sem, q5, hna_putBytes]
    ·have q0 : _ = _:=hd.1 rfl
     have q5 : _ = _:=hd.2.1 rfl
     have q6 : _ = _:=hd.2.2.1 rfl
     refine ov W (.iface T pv) ?_ (.mk hRr rfl rfl)
     simp [go_sem, q0]
   ·intro f V4 hR hf
    obtain ⟨f0, f1, f2, f3, f4, f5, f6, f7, -⟩:=hf
    change f 53 = _ at f0
    change f 54 = _ at f1
    change f 55 = _ at f2
    change f 56 = _ at f3
    change f 57 = _ at f4
    change f 58 = _ at f5
    change f 59 = _ at f6
    change f 60 = _ at f7
    simp only [headDsts, List.take_succ_cons, List.take_zero, List.filterMap_cons, List.filterMap_nil, setAll, f0, f1, f2, f3, f4, f5, f6, f7, List.setIfInBounds_toArray, List.set_cons_succ, List.set_cons_zero, List.drop_succ_cons, List.drop_zero]
    clear f0 f1 f2 f3 f4 f5 f6 f7 f
    have HRX3:=lh (hR.mono (T:=S) (by simp))
    have HAV3:=lh (HE.out.keep _ _ _ HAT3.out hR)
    clear hR
    go_wp2_with (first
     | (refine wl_invoke rfl _ _ _ _ rfl T pv (by simp [go_sem]) "putBytes" nm_putBytes [.slice none 0 0] (by simp [go_sem, band07]) _ (HE.out.nil [0, 0, 0, 0, 0, 0] _ 0 HAV3.out (by have h8:=HCAP.out; rw [lenm]; simp only [List.length_cons, List.length_nil]; omega)) ?_; rintro e w4 ⟨rfl, ha, hk⟩; refine ⟨_, rfl, ?_⟩; have HAT4:=lh (show At [0, 0, 0, 0, 0, 0, 255, 255, 255, 255] w4 by have h9:=ha; rw [lenm] at h9; exact h9); have HX4:=lh (HRX3.out.trans hk (fun x hx => .inl hx)); have HS4:=lh (HS3.out.trans (HX4.out.mono (fun x hx => List.mem_cons_of_mem _ hx)) (fun x hx => .inl hx)); have HM4:=lh (HM3.out.keep HX4.out HMS.out); have HA4:=lh (HA3.out.kept HX4.out (fun b hb => by cases hb; exact HAS.out)); have hc9:=HM4.out.cell 9 _ rfl; have hc4:=HM4.out.cell 4 _ rfl; have hf9:=HM4.out.frozen 9; have hf10:=HM4.out.frozen 10; have HRX4:=lh (Kept.refl S w4); clear ha hk)
     | (have HM5 : Hid (MsgAt mg sa d (.slice none 0 0) (.int .i64 1) (w4.setCell ⟨mg, 9, none⟩ (.slice none 0 0))):=lh (HM4.out.set9 _); have HXM : Hid (Kept [mg] w4 (w4.setCell ⟨mg, 9, none⟩ (.slice none 0 0))):=lh (kept_set mg 9 _ _); have HAT5 : Hid (At [0, 0, 0, 0, 0, 0, 255, 255, 255, 255] (w4.setCell ⟨mg, 9, none⟩ (.slice none 0 0))):=lh (HST.out _ _ _ HAT4.out HXM.out); have HS5 : Hid (Kept (mg :: S) w1 (w4.setCell ⟨mg, 9, none⟩ (.slice none 0 0))):=lh (HS4.out.trans (HXM.out.mono (by simp)) (fun x hx => .inl hx)); have HA5:=lh (HA4.out.kept HXM.out (fun b hb => by cases hb; simpa using HAM.out)); have HRX5 : Hid (Kept S (w4.setCell ⟨mg, 9, none⟩ (.slice none 0 0)) (w4.setCell ⟨mg, 9, none⟩ (.slice none 0 0))):=lh (Kept.refl _ _); refine wl_invoke rfl _ _ _ _ rfl T pv (by simp [go_sem]) "putBytes" nm_putBytes [.slice (some sa) 1 d] (by simp [go_sem, band07]) _ (HE.out.bytes [0, 0, 0, 0, 0, 0, 255, 255, 255, 255] _ [97] sa d (by simp) HA5.out (fun _ => HAS.out) HAT5.out (by have h8:=HCAP.out; rw [len97]; simp only [List.length_append, List.length_cons, List.length_nil]; omega)) ?_; rintro e w6 ⟨rfl, ha, hk⟩; refine ⟨_, rfl, ?_⟩; have HAT6:=lh (show At [0, 0, 0, 0, 0, 0, 255, 255, 255, 255, 0, 0, 0, 1, 97] w6 by have h9:=ha; rw [len97] at h9; exact h9); have HX6:=lh (HRX5.out.trans hk (fun x hx => .inl hx)); have HS6:=lh (HS5.out.trans (HX6.out.mono (fun x hx => List.mem_cons_of_mem _ hx)) (fun x hx => .inl hx)); have HM6:=lh (HM5.out.keep HX6.out HMS.out); have HA6:=lh (HA5.out.kept HX6.out (fun b hb => by cases hb; exact HAS.out)); clear ha hk)
     | (refine wl_invoke rfl _ _ _ _ rfl T pv (by simp [go_sem]) "pop" nm_pop [] (by simp [go_sem]) _ (HPOP.out w6 HS6.out HAT6.out) ?_; rintro e w7 ⟨rfl, hq, hk⟩; refine ⟨_, rfl, ?_⟩; have HQ:=lh hq; have HK7:=lh hk; clear hq hk))
    go_ret
    exact ⟨rfl, g, HGZ.out, HQ.out, HM6.out.keep HK7.out HMGS.out, ((HK1.out.mono (fun x hx => List.mem_cons_of_mem _ hx)).trans (HS6.out.mono (fun x hx => by rcases List.mem_cons.1 hx with h | h <;> simp [h])) (fun x hx => .inl hx)).trans (HK7.out.mono (fun x hx => List.mem_cons_of_mem _ hx)) (fun x hx => .inl hx)⟩
end Go.Proofs.YtmpjikihnmagoaaGreatDoor
