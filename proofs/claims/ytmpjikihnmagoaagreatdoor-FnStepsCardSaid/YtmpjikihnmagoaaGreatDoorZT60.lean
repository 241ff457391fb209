/-
  A record is encoded (147), by the counting encoder and by the writing one. Conditions: the record of recordsAlive.
-/
import Derived.Test.YtmpjikihnmagoaaGreatDoorZT58
set_option maxRecDepth 100000
set_option maxHeartbeats 3200000
namespace Go.Proofs.YtmpjikihnmagoaaGreatDoor
open Go.RowKit
theorem Inv.naf {T : TypeId} {v : Value} {name full : String} {args : List Value} {w : World} {post : Ending → World → Prop} (hn : full = "pub-kestrel/pub/sarama." ++ name) (h : Inv T v name args w post) : (nilAhead 483 T v full).run Tryz.prog w = .ok (some false) w:=by
 subst hn
 obtain ⟨_, _, _, _, h9, _⟩:=h
 exact h9
theorem nm_push : "pub-kestrel/pub/sarama.push" = "pub-kestrel/pub/sarama." ++ "push":=by kernel_rfl
theorem nm_pop : "pub-kestrel/pub/sarama.pop" = "pub-kestrel/pub/sarama." ++ "pop":=by kernel_rfl
theorem nm_putInt8 : "pub-kestrel/pub/sarama.putInt8" = "pub-kestrel/pub/sarama." ++ "putInt8":=by kernel_rfl
theorem nm_putVarint : "pub-kestrel/pub/sarama.putVarint" = "pub-kestrel/pub/sarama." ++ "putVarint":=by kernel_rfl
theorem nm_putVarintBytes : "pub-kestrel/pub/sarama.putVarintBytes" = "pub-kestrel/pub/sarama." ++ "putVarintBytes":=by kernel_rfl
theorem nm_putBytes : "pub-kestrel/pub/sarama.putBytes" = "pub-kestrel/pub/sarama." ++ "putBytes":=by kernel_rfl
theorem uv97 : Lib.uvarint (Lib.zigzag (([97] : List UInt8).length : Int)) = [2]:=by first | exact uv1 | kernel_rfl
theorem big10 : big 1 (0 : Int) = [0]:=by first | rfl | decide | kernel_rfl
def ren1F (g _d : Nat) (_sa : Addr) (T : TypeId) (pv : Value) (ix : Nat) (v : Value) (_ : World) : Prop :=
 match ix with
 | 0 => v = .iface T pv
 | 1 => v = .pointer (some ⟨g, 0, none⟩)
 | 2 => v = .pointer (some ⟨g, 0, none⟩)
 | 3 => v = .pointer (some ⟨g, 6, none⟩)
 | 4 => v = .iface 312 (.pointer (some ⟨g, 6, none⟩))
 | 5 => v = .func (.method "pub-kestrel/pub/sarama.push") #[.iface T pv] #[]
 | 6 => v = .func (.method "pub-kestrel/pub/sarama.push") #[.iface T pv] #[]
 | 7 => v = .iface T pv
 | _ => True
theorem ren1F_stable {g d sa T pv} : ∀ ix v w w', ren1F g d sa T pv ix v w → Kept [] w w' → ren1F g d sa T pv ix v w':=by
 intro ix v w w' h k
 unfold ren1F at h ⊢
 split at h <;> (first | (exact h))
def ren2F (g _d : Nat) (_sa : Addr) (T : TypeId) (pv : Value) (ix : Nat) (v : Value) (_ : World) : Prop :=
 match ix with
 | 0 => v = .iface T pv
 | 1 => v = .pointer (some ⟨g, 0, none⟩)
 | 2 => v = .pointer (some ⟨g, 0, none⟩)
 | 3 => v = .pointer (some ⟨g, 1, none⟩)
 | 4 => v = .int .i8 0
 | 5 => v = .func (.method "pub-kestrel/pub/sarama.putInt8") #[.iface T pv] #[]
 | 6 => v = .func (.method "pub-kestrel/pub/sarama.putInt8") #[.iface T pv] #[]
 | 7 => v = .iface T pv
 | _ => True
theorem ren2F_stable {g d sa T pv} : ∀ ix v w w', ren2F g d sa T pv ix v w → Kept [] w w' → ren2F g d sa T pv ix v w':=by
 intro ix v w w' h k
 unfold ren2F at h ⊢
 split at h <;> (first | (exact h))
def ren3F (g _d : Nat) (_sa : Addr) (T : TypeId) (pv : Value) (ix : Nat) (v : Value) (_ : World) : Prop :=
 match ix with
 | 0 => v = .iface T pv
 | 1 => v = .pointer (some ⟨g, 0, none⟩)
 | 2 => v = .pointer (some ⟨g, 0, none⟩)
 | 3 => v = .pointer (some ⟨g, 2, none⟩)
 | 4 => v = .int .i64 0
 | 5 => v = .int .i64 0
 | 6 => v = .func (.method "pub-kestrel/pub/sarama.putVarint") #[.iface T pv] #[]
 | 7 => v = .func (.method "pub-kestrel/pub/sarama.putVarint") #[.iface T pv] #[]
 | 8 => v = .iface T pv
 | _ => True
theorem ren3F_stable {g d sa T pv} : ∀ ix v w w', ren3F g d sa T pv ix v w → Kept [] w w' → ren3F g d sa T pv ix v w':=by
 intro ix v w w' h k
 unfold ren3F at h ⊢
 split at h <;> (first | (exact h))
def ren4F (g _d : Nat) (_sa : Addr) (T : TypeId) (pv : Value) (ix : Nat) (v : Value) (_ : World) : Prop :=
 match ix with
 | 0 => v = .iface T pv
 | 1 => v = .pointer (some ⟨g, 0, none⟩)
 | 2 => v = .pointer (some ⟨g, 0, none⟩)
 | 3 => v = .pointer (some ⟨g, 3, none⟩)
 | 4 => v = .int .i64 0
 | 5 => v = .func (.method "pub-kestrel/pub/sarama.putVarint") #[.iface T pv] #[]
 | 6 => v = .func (.method "pub-kestrel/pub/sarama.putVarint") #[.iface T pv] #[]
 | 7 => v = .iface T pv
 | _ => True
theorem ren4F_stable {g d sa T pv} : ∀ ix v w w', ren4F g d sa T pv ix v w → Kept [] w w' → ren4F g d sa T pv ix v w':=by
 intro ix v w w' h k
 unfold ren4F at h ⊢
 split at h <;> (first | (exact h))
def ren5F (g _d : Nat) (_sa : Addr) (T : TypeId) (pv : Value) (ix : Nat) (v : Value) (_ : World) : Prop :=
 match ix with
 | 0 => v = .iface T pv
 | 1 => v = .pointer (some ⟨g, 0, none⟩)
 | 2 => v = .pointer (some ⟨g, 0, none⟩)
 | 3 => v = .pointer (some ⟨g, 4, none⟩)
 | 4 => v = .slice none 0 0
 | 5 => v = .func (.method "pub-kestrel/pub/sarama.putVarintBytes") #[.iface T pv] #[]
 | 6 => v = .func (.method "pub-kestrel/pub/sarama.putVarintBytes") #[.iface T pv] #[]
 | 7 => v = .iface T pv
 | _ => True
theorem ren5F_stable {g d sa T pv} : ∀ ix v w w', ren5F g d sa T pv ix v w → Kept [] w w' → ren5F g d sa T pv ix v w':=by
 intro ix v w w' h k
 unfold ren5F at h ⊢
 split at h <;> (first | (exact h))
def ren8F (g d : Nat) (sa : Addr) (T : TypeId) (pv : Value) (ix : Nat) (v : Value) (_ : World) : Prop :=
 match ix with
 | 0 => v = .iface T pv
 | 1 => v = .pointer (some ⟨g, 0, none⟩)
 | 2 => v = .pointer (some ⟨g, 0, none⟩)
 | 3 => v = .pointer (some ⟨g, 5, none⟩)
 | 4 => v = .slice (some sa) 1 d
 | 5 => v = .func (.method "pub-kestrel/pub/sarama.putVarintBytes") #[.iface T pv] #[]
 | 6 => v = .func (.method "pub-kestrel/pub/sarama.putVarintBytes") #[.iface T pv] #[]
 | 7 => v = .iface T pv
 | _ => True
theorem ren8F_stable {g d sa T pv} : ∀ ix v w w', ren8F g d sa T pv ix v w → Kept [] w w' → ren8F g d sa T pv ix v w':=by
 intro ix v w w' h k
 unfold ren8F at h ⊢
 split at h <;> (first | (exact h))
def ren11F (g _d : Nat) (_sa : Addr) (T : TypeId) (pv : Value) (ix : Nat) (v : Value) (_ : World) : Prop :=
 match ix with
 | 0 => v = .iface T pv
 | 1 => v = .pointer (some ⟨g, 0, none⟩)
 | 2 => v = .pointer (some ⟨g, 0, none⟩)
 | 3 => v = .pointer (some ⟨g, 0, none⟩)
 | 4 => v = .slice none 0 0
 | 5 => v = .int .i64 0
 | 6 => v = .func (.method "pub-kestrel/pub/sarama.putVarint") #[.iface T pv] #[]
 | 7 => v = .func (.method "pub-kestrel/pub/sarama.putVarint") #[.iface T pv] #[]
 | 8 => v = .iface T pv
 | _ => True
theorem ren11F_stable {g d sa T pv} : ∀ ix v w w', ren11F g d sa T pv ix v w → Kept [] w w' → ren11F g d sa T pv ix v w':=by
 intro ix v w w' h k
 unfold ren11F at h ⊢
 split at h <;> (first | (exact h))
theorem recEnc {T : TypeId} {pv : Value} {S : List Nat} {Q : World → Prop} (g d : Nat) (sa : Addr) (n : Int) (w : World) (hpp : ∀ W, Kept [] w W → PushPop T pv (.iface 312 (.pointer (some ⟨g, 6, none⟩))) (FieldAt g (.slice none 0 0) (.int .i8 0) (.int .i64 0) (.int .i64 0) (.slice none 0 0) (.slice (some sa) 1 d) 0 n) g S [0] [0, 0, 0, 0, 1, 2, 97, 0] Q W) (hgS : g ∉ S) (haS : sa.block ∉ S) (hag : sa.block ≠ g) (hsl : SlIs w 1 (some sa) 1 (Lib.byteCells [97])) : Calls Tryz.prog 147 #[.pointer (some ⟨g, 0, none⟩), .iface T pv] w (fun e w' => e = .returned .nilIface ∧ Q w' ∧ Kept (g :: S) w w'):=by
 have HPP:=lh hpp
 have HGS:=lh hgS
 have HAS:=lh haS
 have HAB : Hid (sa.block ∉ g :: S):=lh (by simp; exact ⟨hag, haS⟩)
 have HA:=lh hsl
 have HNA0 : Hid (∀ W, Kept [] w W → (nilAhead 483 T pv "pub-kestrel/pub/sarama.push").run Tryz.prog W = .ok (some false) W):=lh fun W hk => (hpp W hk).naf nm_push
 clear hpp hgS haS hag hsl
 go_enter Tryz.func147, Tryz.ntmps147
 go_wp2
 refine wp_region_facts' 8 (Kept []) (ren1F g d sa T pv) mixed (by kernel_rfl) (Kept.refl _ _).drew (fun _ _ _ h k => h.trans k (fun x hx => .inl hx)) ren1F_stable ?_ ?_
 ·refine ⟨?_, ?_, ?_, ?_, ?_, ?_, ?_, ?_, trivial⟩
  all_goals go_light
  all_goals intro a W hR hs hd
  all_goals have p0 : a.tmps[0]? = some (.pointer (some ⟨g, 0, none⟩)):=hs.2.2 0 (by decide)
  all_goals have p1 : a.tmps[1]? = some (.iface T pv):=hs.2.2 1 (by decide)
  all_goals have hRr : Kept [] W W:=Kept.refl _ _
  all_goals have hna_push : (nilAhead 483 T pv "pub-kestrel/pub/sarama.push").run Tryz.prog W = .ok (some false) W:=HNA0.out W hR
  ·refine ov W (.iface T pv) ?_ (.mk hRr rfl rfl)
   simp [go_sem, p1]
  ·refine ov W (.pointer (some ⟨g, 0, none⟩)) ?_ (.mk hRr rfl rfl)
   simp [go_sem, p0]
  ·have q1 : _ = _:=hd.1 rfl
   refine ov W (.pointer (some ⟨g, 0, none⟩)) ?_ (.mk hRr rfl rfl)
   simp [go_sem, q1]
  ·have q2 : _ = _:=hd.1 rfl
   refine ov W (.pointer (some ⟨g, 6, none⟩)) ?_ (.mk hRr rfl rfl)
   simp [go_sem, q2]
  ·have q3 : _ = _:=hd.1 rfl
   refine ov W (.iface 312 (.pointer (some ⟨g, 6, none⟩))) ?_ (.mk hRr rfl rfl)
   simp [go_sem, q3]
  ·have q0 : _ = _:=hd.1 rfl
   refine ov W (.func (.method "pub-kestrel/pub/sarama.push") #[.iface T pv] #[]) ?_ (.mk hRr rfl rfl)
   simp [go_sem, q0]
  ·have q5 : _ = _:=hd.1 rfl
   refine ov W (.func (.method "pub-kestrel/pub/sarama.push") #[.iface T pv] #[]) ?_ (.mk hRr rfl rfl)
   simp [go_sem, q5, hna_push]
  ·have q0 : _ = _:=hd.1 rfl
   have q5 : _ = _:=hd.2.1 rfl
   have q6 : _ = _:=hd.2.2.1 rfl
   refine ov W (.iface T pv) ?_ (.mk hRr rfl rfl)
   simp [go_sem, q0]
 ·intro f V1 hR hf
  obtain ⟨f0, f1, f2, f3, f4, f5, f6, f7, -⟩:=hf
  change f 10 = _ at f0
  change f 11 = _ at f1
  change f 12 = _ at f2
  change f 13 = _ at f3
  change f 14 = _ at f4
  change f 15 = _ at f5
  change f 16 = _ at f6
  change f 17 = _ at f7
  simp only [headDsts, List.take_succ_cons, List.take_zero, List.filterMap_cons, List.filterMap_nil, setAll, f0, f1, f2, f3, f4, f5, f6, f7, List.setIfInBounds_toArray, List.set_cons_succ, List.set_cons_zero, List.drop_succ_cons, List.drop_zero]
  clear f0 f1 f2 f3 f4 f5 f6 f7 f
  have HR:=lh hR
  clear hR
  go_wp2_with (refine wl_invoke rfl _ _ _ _ rfl T pv (by simp [go_sem]) "push" nm_push [.iface 312 (.pointer (some ⟨g, 6, none⟩))] (by simp [go_sem]) _ (HPP.out _ HR.out) ?_; rintro e w1 ⟨rfl, hG, hk1, At, cap, hcap, E, hat, hpop⟩; refine ⟨_, rfl, ?_⟩; have HF1:=lh hG; have HK1:=lh (HR.out.mono (T:=g :: S) (by simp) |>.trans hk1 (fun x hx => .inl hx)); have HE:=lh E; have HAT1:=lh hat; have HPOP:=lh hpop; have HCAP : Hid (8 ≤ cap):=lh hcap; have HS1:=lh (Kept.refl S w1); have HA1:=lh (HA.out.kept HK1.out (fun b hb => by cases hb; exact HAB.out)); clear hG hk1 E hat hpop hcap)
  simp only [Act.put, List.setIfInBounds_toArray, List.set_cons_succ, List.set_cons_zero]
  have HNA1 : Hid (∀ W, Kept [] w1 W → (nilAhead 483 T pv "pub-kestrel/pub/sarama.putInt8").run Tryz.prog W = .ok (some false) W):=lh fun W hk => Inv.naf nm_putInt8 (HE.out.int8 [0] _ 0 (HE.out.keep _ _ _ HAT1.out hk) (by have h8:=HCAP.out; simp only [List.length_cons, List.length_nil]; omega))
  refine wp_region_facts' 8 (Kept []) (ren2F g d sa T pv) mixed (by kernel_rfl) (Kept.refl _ _).drew (fun _ _ _ h k => h.trans k (fun x hx => .inl hx)) ren2F_stable ?_ ?_
  ·refine ⟨?_, ?_, ?_, ?_, ?_, ?_, ?_, ?_, trivial⟩
   all_goals go_light
   all_goals intro a W hR hs hd
   all_goals have p0 : a.tmps[0]? = some (.pointer (some ⟨g, 0, none⟩)):=hs.2.2 0 (by decide)
   all_goals have p1 : a.tmps[1]? = some (.iface T pv):=hs.2.2 1 (by decide)
   all_goals have hRr : Kept [] W W:=Kept.refl _ _
   all_goals have m_g_1 : W.cell? ⟨g, 1, none⟩ = some (.int .i8 0):=hR.cell (HF1.out.cell 1 _ rfl) (by simp)
   all_goals have hna_putInt8:=HNA1.out W hR
   ·refine ov W (.iface T pv) ?_ (.mk hRr rfl rfl)
    simp [go_sem, p1]
   ·refine ov W (.pointer (some ⟨g, 0, none⟩)) ?_ (.mk hRr rfl rfl)
    simp [go_sem, p0]
   ·have q1 : _ = _:=hd.1 rfl
    refine ov W (.pointer (some ⟨g, 0, none⟩)) ?_ (.mk hRr rfl rfl)
    simp [go_sem, q1]
   ·have q2 : _ = _:=hd.1 rfl
    refine ov W (.pointer (some ⟨g, 1, none⟩)) ?_ (.mk hRr rfl rfl)
    simp [go_sem, q2]
   ·have q3 : _ = _:=hd.1 rfl
    refine ov W (.int .i8 0) ?_ (.mk hRr rfl rfl)
    simp [go_sem, q3, m_g_1]
   ·have q0 : _ = _:=hd.1 rfl
    refine ov W (.func (.method "pub-kestrel/pub/sarama.putInt8") #[.iface T pv] #[]) ?_ (.mk hRr rfl rfl)
    simp [go_sem, q0]
   ·have q5 : _ = _:=hd.1 rfl
    refine ov W (.func (.method "pub-kestrel/pub/sarama.putInt8") #[.iface T pv] #[]) ?_ (.mk hRr rfl rfl)
    simp [go_sem, q5, hna_putInt8]
   ·have q0 : _ = _:=hd.1 rfl
    have q5 : _ = _:=hd.2.1 rfl
    have q6 : _ = _:=hd.2.2.1 rfl
    refine ov W (.iface T pv) ?_ (.mk hRr rfl rfl)
    simp [go_sem, q0]
  ·intro f V2 hR hf
   obtain ⟨f0, f1, f2, f3, f4, f5, f6, f7, -⟩:=hf
   change f 19 = _ at f0
   change f 20 = _ at f1
   change f 21 = _ at f2
   change f 22 = _ at f3
   change f 23 = _ at f4
   change f 24 = _ at f5
   change f 25 = _ at f6
   change f 26 = _ at f7
   simp only [headDsts, List.take_succ_cons, List.take_zero, List.filterMap_cons, List.filterMap_nil, setAll, f0, f1, f2, f3, f4, f5, f6, f7, List.setIfInBounds_toArray, List.set_cons_succ, List.set_cons_zero, List.drop_succ_cons, List.drop_zero]
   clear f0 f1 f2 f3 f4 f5 f6 f7 f
   have HR1:=lh hR
   have HAV1:=lh (HE.out.keep _ _ _ HAT1.out hR)
   have HSV1:=lh (HA1.out.kept0 hR)
   clear hR
   go_wp2_with (refine wl_invoke rfl _ _ _ _ rfl T pv (by simp [go_sem]) "putInt8" nm_putInt8 [.int .i8 0] (by simp [go_sem]) _ (HE.out.int8 [0] _ 0 HAV1.out (by have h8:=HCAP.out; simp only [List.length_cons, List.length_nil]; omega)) ?_; rintro e w2 ⟨rfl, ha, hk⟩; refine ⟨_, rfl, ?_⟩; have HAT2:=lh (show At [0, 0] w2 by have h9:=ha; rw [big10] at h9; exact h9); have HX2:=lh ((HR1.out.mono (T:=S) (by simp)).trans hk (fun x hx => .inl hx)); have HS2:=lh (HS1.out.trans HX2.out (fun x hx => .inl hx)); have HF2:=lh (HF1.out.keep HX2.out HGS.out); have HA2:=lh (HA1.out.kept HX2.out (fun b hb => by cases hb; exact HAS.out)); clear ha hk)
   simp only [Act.put, List.setIfInBounds_toArray, List.set_cons_succ, List.set_cons_zero]
   have HNA2 : Hid (∀ W, Kept [] w2 W → (nilAhead 483 T pv "pub-kestrel/pub/sarama.putVarint").run Tryz.prog W = .ok (some false) W):=lh fun W hk => Inv.naf nm_putVarint (HE.out.varint [0, 0] _ 0 (by omega) (by omega) (HE.out.keep _ _ _ HAT2.out hk) (by have h8:=HCAP.out; rw [uv0]; simp only [List.length_cons, List.length_nil]; omega))
   refine wp_region_facts' 9 (Kept []) (ren3F g d sa T pv) mixed (by kernel_rfl) (Kept.refl _ _).drew (fun _ _ _ h k => h.trans k (fun x hx => .inl hx)) ren3F_stable ?_ ?_
   ·refine ⟨?_, ?_, ?_, ?_, ?_, ?_, ?_, ?_, ?_, trivial⟩
    all_goals go_light
    all_goals intro a W hR hs hd
    all_goals have p0 : a.tmps[0]? = some (.pointer (some ⟨g, 0, none⟩)):=hs.2.2 0 (by decide)
    all_goals have p1 : a.tmps[1]? = some (.iface T pv):=hs.2.2 1 (by decide)
    all_goals have hRr : Kept [] W W:=Kept.refl _ _
    all_goals have m_g_2 : W.cell? ⟨g, 2, none⟩ = some (.int .i64 0):=hR.cell (HF2.out.cell 2 _ rfl) (by simp)
    all_goals have hna_putVarint:=HNA2.out W hR
    ·refine ov W (.iface T pv) ?_ (.mk hRr rfl rfl)
     simp [go_sem, p1]
    ·refine ov W (.pointer (some ⟨g, 0, none⟩)) ?_ (.mk hRr rfl rfl)
     simp [go_sem, p0]
    ·have q1 : _ = _:=hd.1 rfl
     refine ov W (.pointer (some ⟨g, 0, none⟩)) ?_ (.mk hRr rfl rfl)
     simp [go_sem, q1]
    ·have q2 : _ = _:=hd.1 rfl
     refine ov W (.pointer (some ⟨g, 2, none⟩)) ?_ (.mk hRr rfl rfl)
     simp [go_sem, q2]
    ·have q3 : _ = _:=hd.1 rfl
     refine ov W (.int .i64 0) ?_ (.mk hRr rfl rfl)
     simp [go_sem, q3, m_g_2]
    ·have q4 : _ = _:=hd.1 rfl
     refine ov W (.int .i64 0) ?_ (.mk hRr rfl rfl)
     simp [go_sem, q4]
     all_goals rfl
    ·have q0 : _ = _:=hd.1 rfl
     refine ov W (.func (.method "pub-kestrel/pub/sarama.putVarint") #[.iface T pv] #[]) ?_ (.mk hRr rfl rfl)
     simp [go_sem, q0]
    ·have q6 : _ = _:=hd.1 rfl
     refine ov W (.func (.method "pub-kestrel/pub/sarama.putVarint") #[.iface T pv] #[]) ?_ (.mk hRr rfl rfl)
     simp [go_sem, q6, hna_putVarint]
    ·have q0 : _ = _:=hd.1 rfl
     have q6 : _ = _:=hd.2.1 rfl
     have q7 : _ = _:=hd.2.2.1 rfl
     refine ov W (.iface T pv) ?_ (.mk hRr rfl rfl)
     simp [go_sem, q0]
   ·intro f V3 hR hf
    obtain ⟨f0, f1, f2, f3, f4, f5, f6, f7, f8, -⟩:=hf
    change f 28 = _ at f0
    change f 29 = _ at f1
    change f 30 = _ at f2
    change f 31 = _ at f3
    change f 32 = _ at f4
    change f 33 = _ at f5
    change f 34 = _ at f6
    change f 35 = _ at f7
    change f 36 = _ at f8
    simp only [headDsts, List.take_succ_cons, List.take_zero, List.filterMap_cons, List.filterMap_nil, setAll, f0, f1, f2, f3, f4, f5, f6, f7, f8, List.setIfInBounds_toArray, List.set_cons_succ, List.set_cons_zero, List.drop_succ_cons, List.drop_zero]
    clear f0 f1 f2 f3 f4 f5 f6 f7 f8 f
    have HR2:=lh hR
    have HAV2:=lh (HE.out.keep _ _ _ HAT2.out hR)
    have HSV2:=lh (HA2.out.kept0 hR)
    clear hR
    go_wp2_with (refine wl_invoke rfl _ _ _ _ rfl T pv (by simp [go_sem]) "putVarint" nm_putVarint [.int .i64 0] (by simp [go_sem]) _ (HE.out.varint [0, 0] _ 0 (by omega) (by omega) HAV2.out (by have h8:=HCAP.out; rw [uv0]; simp only [List.length_cons, List.length_nil]; omega)) ?_; rintro e w3 ⟨rfl, ha, hk⟩; refine ⟨_, rfl, ?_⟩; have HAT3:=lh (show At [0, 0, 0] w3 by have h9:=ha; rw [uv0] at h9; exact h9); have HX3:=lh ((HR2.out.mono (T:=S) (by simp)).trans hk (fun x hx => .inl hx)); have HS3:=lh (HS2.out.trans HX3.out (fun x hx => .inl hx)); have HF3:=lh (HF2.out.keep HX3.out HGS.out); have HA3:=lh (HA2.out.kept HX3.out (fun b hb => by cases hb; exact HAS.out)); clear ha hk)
    simp only [Act.put, List.setIfInBounds_toArray, List.set_cons_succ, List.set_cons_zero]
    have HNA3 : Hid (∀ W, Kept [] w3 W → (nilAhead 483 T pv "pub-kestrel/pub/sarama.putVarint").run Tryz.prog W = .ok (some false) W):=lh fun W hk => Inv.naf nm_putVarint (HE.out.varint [0, 0, 0] _ 0 (by omega) (by omega) (HE.out.keep _ _ _ HAT3.out hk) (by have h8:=HCAP.out; rw [uv0]; simp only [List.length_cons, List.length_nil]; omega))
    refine wp_region_facts' 8 (Kept []) (ren4F g d sa T pv) mixed (by kernel_rfl) (Kept.refl _ _).drew (fun _ _ _ h k => h.trans k (fun x hx => .inl hx)) ren4F_stable ?_ ?_
    ·refine ⟨?_, ?_, ?_, ?_, ?_, ?_, ?_, ?_, trivial⟩
     all_goals go_light
     all_goals intro a W hR hs hd
     all_goals have p0 : a.tmps[0]? = some (.pointer (some ⟨g, 0, none⟩)):=hs.2.2 0 (by decide)
     all_goals have p1 : a.tmps[1]? = some (.iface T pv):=hs.2.2 1 (by decide)
     all_goals have hRr : Kept [] W W:=Kept.refl _ _
     all_goals have m_g_3 : W.cell? ⟨g, 3, none⟩ = some (.int .i64 0):=hR.cell (HF3.out.cell 3 _ rfl) (by simp)
     all_goals have hna_putVarint:=HNA3.out W hR
     ·refine ov W (.iface T pv) ?_ (.mk hRr rfl rfl)
      simp [go_sem, p1]
     ·refine ov W (.pointer (some ⟨g, 0, none⟩)) ?_ (.mk hRr rfl rfl)
      simp [go_sem, p0]
     ·have q1 : _ = _:=hd.1 rfl
      refine ov W (.pointer (some ⟨g, 0, none⟩)) ?_ (.mk hRr rfl rfl)
      simp [go_sem, q1]
     ·have q2 : _ = _:=hd.1 rfl
      refine ov W (.pointer (some ⟨g, 3, none⟩)) ?_ (.mk hRr rfl rfl)
      simp [go_sem, q2]
     ·have q3 : _ = _:=hd.1 rfl
      refine ov W (.int .i64 0) ?_ (.mk hRr rfl rfl)
      simp [go_sem, q3, m_g_3]
     ·have q0 : _ = _:=hd.1 rfl
      refine ov W (.func (.method "pub-kestrel/pub/sarama.putVarint") #[.iface T pv] #[]) ?_ (.mk hRr rfl rfl)
      simp [go_sem, q0]
     ·have q5 : _ = _:=hd.1 rfl
      refine ov W (.func (.method "pub-kestrel/pub/sarama.putVarint") #[.iface T pv] #[]) ?_ (.mk hRr rfl rfl)
      simp [go_sem, q5, hna_putVarint]
     ·have q0 : _ = _:=hd.1 rfl
      have q5 : _ = _:=hd.2.1 rfl
      have q6 : _ = _:=hd.2.2.1 rfl
      refine ov W (.iface T pv) ?_ (.mk hRr rfl rfl)
      simp [go_sem, q0]
    ·intro f V4 hR hf
     obtain ⟨f0, f1, f2, f3, f4, f5, f6, f7, -⟩:=hf
     change f 38 = _ at f0
     change f 39 = _ at f1
     change f 40 = _ at f2
     change f 41 = _ at f3
     change f 42 = _ at f4
     change f 43 = _ at f5
     change f 44 = _ at f6
     change f 45 = _ at f7
     simp only [headDsts, List.take_succ_cons, List.take_zero, List.filterMap_cons, List.filterMap_nil, setAll, f0, f1, f2, f3, f4, f5, f6, f7, List.setIfInBounds_toArray, List.set_cons_succ, List.set_cons_zero, List.drop_succ_cons, List.drop_zero]
     clear f0 f1 f2 f3 f4 f5 f6 f7 f
     have HR3:=lh hR
     have HAV3:=lh (HE.out.keep _ _ _ HAT3.out hR)
     have HSV3:=lh (HA3.out.kept0 hR)
     clear hR
     go_wp2_with (refine wl_invoke rfl _ _ _ _ rfl T pv (by simp [go_sem]) "putVarint" nm_putVarint [.int .i64 0] (by simp [go_sem]) _ (HE.out.varint [0, 0, 0] _ 0 (by omega) (by omega) HAV3.out (by have h8:=HCAP.out; rw [uv0]; simp only [List.length_cons, List.length_nil]; omega)) ?_; rintro e w4 ⟨rfl, ha, hk⟩; refine ⟨_, rfl, ?_⟩; have HAT4:=lh (show At [0, 0, 0, 0] w4 by have h9:=ha; rw [uv0] at h9; exact h9); have HX4:=lh ((HR3.out.mono (T:=S) (by simp)).trans hk (fun x hx => .inl hx)); have HS4:=lh (HS3.out.trans HX4.out (fun x hx => .inl hx)); have HF4:=lh (HF3.out.keep HX4.out HGS.out); have HA4:=lh (HA3.out.kept HX4.out (fun b hb => by cases hb; exact HAS.out)); clear ha hk)
     simp only [Act.put, List.setIfInBounds_toArray, List.set_cons_succ, List.set_cons_zero]
     have HNA4 : Hid (∀ W, Kept [] w4 W → (nilAhead 483 T pv "pub-kestrel/pub/sarama.putVarintBytes").run Tryz.prog W = .ok (some false) W):=lh fun W hk => Inv.naf nm_putVarintBytes (HE.out.varnil [0, 0, 0, 0] _ 0 (HE.out.keep _ _ _ HAT4.out hk) (by have h8:=HCAP.out; rw [uvm1]; simp only [List.length_cons, List.length_nil]; omega))
     refine wp_region_facts' 8 (Kept []) (ren5F g d sa T pv) mixed (by kernel_rfl) (Kept.refl _ _).drew (fun _ _ _ h k => h.trans k (fun x hx => .inl hx)) ren5F_stable ?_ ?_
     ·refine ⟨?_, ?_, ?_, ?_, ?_, ?_, ?_, ?_, trivial⟩
      all_goals go_light
      all_goals intro a W hR hs hd
      all_goals have p0 : a.tmps[0]? = some (.pointer (some ⟨g, 0, none⟩)):=hs.2.2 0 (by decide)
      all_goals have p1 : a.tmps[1]? = some (.iface T pv):=hs.2.2 1 (by decide)
      all_goals have hRr : Kept [] W W:=Kept.refl _ _
      all_goals have m_g_4 : W.cell? ⟨g, 4, none⟩ = some (.slice none 0 0):=hR.cell (HF4.out.cell 4 _ rfl) (by simp)
      all_goals have hna_putVarintBytes:=HNA4.out W hR
      ·refine ov W (.iface T pv) ?_ (.mk hRr rfl rfl)
       simp [go_sem, p1]
      ·refine ov W (.pointer (some ⟨g, 0, none⟩)) ?_ (.mk hRr rfl rfl)
       simp [go_sem, p0]
      ·have q1 : _ = _:=hd.1 rfl
       refine ov W (.pointer (some ⟨g, 0, none⟩)) ?_ (.mk hRr rfl rfl)
       simp [go_sem, q1]
      ·have q2 : _ = _:=hd.1 rfl
       refine ov W (.pointer (some ⟨g, 4, none⟩)) ?_ (.mk hRr rfl rfl)
       simp [go_sem, q2]
      ·have q3 : _ = _:=hd.1 rfl
       refine ov W (.slice none 0 0) ?_ (.mk hRr rfl rfl)
       simp [go_sem, q3, m_g_4]
      ·have q0 : _ = _:=hd.1 rfl
       refine ov W (.func (.method "pub-kestrel/pub/sarama.putVarintBytes") #[.iface T pv] #[]) ?_ (.mk hRr rfl rfl)
       simp [go_sem, q0]
      ·have q5 : _ = _:=hd.1 rfl
       refine ov W (.func (.method "pub-kestrel/pub/sarama.putVarintBytes") #[.iface T pv] #[]) ?_ (.mk hRr rfl rfl)
       simp [go_sem, q5, hna_putVarintBytes]
      ·have q0 : _ = _:=hd.1 rfl
       have q5 : _ = _:=hd.2.1 rfl
       have q6 : _ = _:=hd.2.2.1 rfl
       refine ov W (.iface T pv) ?_ (.mk hRr rfl rfl)
       simp [go_sem, q0]
     ·intro f V5 hR hf
      obtain ⟨f0, f1, f2, f3, f4, f5, f6, f7, -⟩:=hf
      change f 47 = _ at f0
      change f 48 = _ at f1
      change f 49 = _ at f2
      change f 50 = _ at f3
      change f 51 = _ at f4
      change f 52 = _ at f5
      change f 53 = _ at f6
      change f 54 = _ at f7
      simp only [headDsts, List.take_succ_cons, List.take_zero, List.filterMap_cons, List.filterMap_nil, setAll, f0, f1, f2, f3, f4, f5, f6, f7, List.setIfInBounds_toArray, List.set_cons_succ, List.set_cons_zero, List.drop_succ_cons, List.drop_zero]
      clear f0 f1 f2 f3 f4 f5 f6 f7 f
      have HR4:=lh hR
      have HAV4:=lh (HE.out.keep _ _ _ HAT4.out hR)
      have HSV4:=lh (HA4.out.kept0 hR)
      clear hR
      go_wp2_with (refine wl_invoke rfl _ _ _ _ rfl T pv (by simp [go_sem]) "putVarintBytes" nm_putVarintBytes [.slice none 0 0] (by simp [go_sem]) _ (HE.out.varnil [0, 0, 0, 0] _ 0 HAV4.out (by have h8:=HCAP.out; rw [uvm1]; simp only [List.length_cons, List.length_nil]; omega)) ?_; rintro e w5 ⟨rfl, ha, hk⟩; refine ⟨_, rfl, ?_⟩; have HAT5:=lh (show At [0, 0, 0, 0, 1] w5 by have h9:=ha; rw [uvm1] at h9; exact h9); have HX5:=lh ((HR4.out.mono (T:=S) (by simp)).trans hk (fun x hx => .inl hx)); have HS5:=lh (HS4.out.trans HX5.out (fun x hx => .inl hx)); have HF5:=lh (HF4.out.keep HX5.out HGS.out); have HA5:=lh (HA4.out.kept HX5.out (fun b hb => by cases hb; exact HAS.out)); clear ha hk)
      have HNA5 : Hid (∀ W, Kept [] w5 W → (nilAhead 483 T pv "pub-kestrel/pub/sarama.putVarintBytes").run Tryz.prog W = .ok (some false) W):=lh fun W hk => Inv.naf nm_putVarintBytes (HE.out.varbytes [0, 0, 0, 0, 1] _ [97] sa d (by simp) (HA5.out.kept0 hk) (fun _ => HAS.out) (HE.out.keep _ _ _ HAT5.out hk) (by have h8:=HCAP.out; rw [uv97]; simp only [List.length_append, List.length_cons, List.length_nil]; omega))
      refine wp_region_facts' 8 (Kept []) (ren8F g d sa T pv) mixed (by kernel_rfl) (Kept.refl _ _).drew (fun _ _ _ h k => h.trans k (fun x hx => .inl hx)) ren8F_stable ?_ ?_
      ·refine ⟨?_, ?_, ?_, ?_, ?_, ?_, ?_, ?_, trivial⟩
       all_goals go_light
       all_goals intro a W hR hs hd
       all_goals have p0 : a.tmps[0]? = some (.pointer (some ⟨g, 0, none⟩)):=hs.2.2 0 (by decide)
       all_goals have p1 : a.tmps[1]? = some (.iface T pv):=hs.2.2 1 (by decide)
       all_goals have hRr : Kept [] W W:=Kept.refl _ _
       all_goals have m_g_5 : W.cell? ⟨g, 5, none⟩ = some (.slice (some sa) 1 d):=hR.cell (HF5.out.cell 5 _ rfl) (by simp)
       all_goals have hna_putVarintBytes:=HNA5.out W hR
       ·refine ov W (.iface T pv) ?_ (.mk hRr rfl rfl)
        simp [go_sem, p1]
       ·refine ov W (.pointer (some ⟨g, 0, none⟩)) ?_ (.mk hRr rfl rfl)
        simp [go_sem, p0]
       ·have q1 : _ = _:=hd.1 rfl
        refine ov W (.pointer (some ⟨g, 0, none⟩)) ?_ (.mk hRr rfl rfl)
        simp [go_sem, q1]
       ·have q2 : _ = _:=hd.1 rfl
        refine ov W (.pointer (some ⟨g, 5, none⟩)) ?_ (.mk hRr rfl rfl)
        simp [go_sem, q2]
       ·have q3 : _ = _:=hd.1 rfl
        refine ov W (.slice (some sa) 1 d) ?_ (.mk hRr rfl rfl)
        simp [go_sem, q3, m_g_5]
       ·have q0 : _ = _:=hd.1 rfl
        refine ov W (.func (.method "pub-kestrel/pub/sarama.putVarintBytes") #[.iface T pv] #[]) ?_ (.mk hRr rfl rfl)
        simp [go_sem, q0]
       ·have q5 : _ = _:=hd.1 rfl
        refine ov W (.func (.method "pub-kestrel/pub/sarama.putVarintBytes") #[.iface T pv] #[]) ?_ (.mk hRr rfl rfl)
        simp [go_sem, q5, hna_putVarintBytes]
       ·have q0 : _ = _:=hd.1 rfl
        have q5 : _ = _:=hd.2.1 rfl
        have q6 : _ = _:=hd.2.2.1 rfl
        refine ov W (.iface T pv) ?_ (.mk hRr rfl rfl)
        simp [go_sem, q0]
      ·intro f V6 hR hf
       obtain ⟨f0, f1, f2, f3, f4, f5, f6, f7, -⟩:=hf
       change f 59 = _ at f0
       change f 60 = _ at f1
       change f 61 = _ at f2
       change f 62 = _ at f3
       change f 63 = _ at f4
       change f 64 = _ at f5
       change f 65 = _ at f6
       change f 66 = _ at f7
       simp only [headDsts, List.take_succ_cons, List.take_zero, List.filterMap_cons, List.filterMap_nil, setAll, f0, f1, f2, f3, f4, f5, f6, f7, List.setIfInBounds_toArray, List.set_cons_succ, List.set_cons_zero, List.drop_succ_cons, List.drop_zero]
       clear f0 f1 f2 f3 f4 f5 f6 f7 f
       have HR5:=lh hR
       have HAV5:=lh (HE.out.keep _ _ _ HAT5.out hR)
       have HSV5:=lh (HA5.out.kept0 hR)
       clear hR
       go_wp2_with (refine wl_invoke rfl _ _ _ _ rfl T pv (by simp [go_sem]) "putVarintBytes" nm_putVarintBytes [.slice (some sa) 1 d] (by simp [go_sem]) _ (HE.out.varbytes [0, 0, 0, 0, 1] _ [97] sa d (by simp) (HSV5.out) (fun _ => HAS.out) HAV5.out (by have h8:=HCAP.out; rw [uv97]; simp only [List.length_append, List.length_cons, List.length_nil]; omega)) ?_; rintro e w6 ⟨rfl, ha, hk⟩; refine ⟨_, rfl, ?_⟩; have HAT6:=lh (show At [0, 0, 0, 0, 1, 2, 97] w6 by have h9:=ha; rw [uv97] at h9; exact h9); have HX6:=lh ((HR5.out.mono (T:=S) (by simp)).trans hk (fun x hx => .inl hx)); have HS6:=lh (HS5.out.trans HX6.out (fun x hx => .inl hx)); have HF6:=lh (HF5.out.keep HX6.out HGS.out); have HA6:=lh (HA5.out.kept HX6.out (fun b hb => by cases hb; exact HAS.out)); clear ha hk)
       have HNA6 : Hid (∀ W, Kept [] w6 W → (nilAhead 483 T pv "pub-kestrel/pub/sarama.putVarint").run Tryz.prog W = .ok (some false) W):=lh fun W hk => Inv.naf nm_putVarint (HE.out.varint [0, 0, 0, 0, 1, 2, 97] _ 0 (by omega) (by omega) (HE.out.keep _ _ _ HAT6.out hk) (by have h8:=HCAP.out; rw [uv0]; simp only [List.length_cons, List.length_nil]; omega))
       refine wp_region_facts' 9 (Kept []) (ren11F g d sa T pv) mixed (by kernel_rfl) (Kept.refl _ _).drew (fun _ _ _ h k => h.trans k (fun x hx => .inl hx)) ren11F_stable ?_ ?_
       ·refine ⟨?_, ?_, ?_, ?_, ?_, ?_, ?_, ?_, ?_, trivial⟩
        all_goals go_light
        all_goals intro a W hR hs hd
        all_goals have p0 : a.tmps[0]? = some (.pointer (some ⟨g, 0, none⟩)):=hs.2.2 0 (by decide)
        all_goals have p1 : a.tmps[1]? = some (.iface T pv):=hs.2.2 1 (by decide)
        all_goals have hRr : Kept [] W W:=Kept.refl _ _
        all_goals have m_g_0 : W.cell? ⟨g, 0, none⟩ = some (.slice none 0 0):=hR.cell (HF6.out.cell 0 _ rfl) (by simp)
        all_goals have hna_putVarint:=HNA6.out W hR
        ·refine ov W (.iface T pv) ?_ (.mk hRr rfl rfl)
         simp [go_sem, p1]
        ·refine ov W (.pointer (some ⟨g, 0, none⟩)) ?_ (.mk hRr rfl rfl)
         simp [go_sem, p0]
        ·have q1 : _ = _:=hd.1 rfl
         refine ov W (.pointer (some ⟨g, 0, none⟩)) ?_ (.mk hRr rfl rfl)
         simp [go_sem, q1]
        ·have q2 : _ = _:=hd.1 rfl
         refine ov W (.pointer (some ⟨g, 0, none⟩)) ?_ (.mk hRr rfl rfl)
         simp [go_sem, q2]
        ·have q3 : _ = _:=hd.1 rfl
         refine ov W (.slice none 0 0) ?_ (.mk hRr rfl rfl)
         simp [go_sem, q3, m_g_0]
        ·have q4 : _ = _:=hd.1 rfl
         refine ov W (.int .i64 0) ?_ (.mk hRr rfl rfl)
         simp [go_sem, q4]
         all_goals rfl
        ·have q0 : _ = _:=hd.1 rfl
         refine ov W (.func (.method "pub-kestrel/pub/sarama.putVarint") #[.iface T pv] #[]) ?_ (.mk hRr rfl rfl)
         simp [go_sem, q0]
        ·have q6 : _ = _:=hd.1 rfl
         refine ov W (.func (.method "pub-kestrel/pub/sarama.putVarint") #[.iface T pv] #[]) ?_ (.mk hRr rfl rfl)
         simp [go_sem, q6, hna_putVarint]
        ·have q0 : _ = _:=hd.1 rfl
         have q6 : _ = _:=hd.2.1 rfl
         have q7 : _ = _:=hd.2.2.1 rfl
         refine ov W (.iface T pv) ?_ (.mk hRr rfl rfl)
         simp [go_sem, q0]
       ·intro f V7 hR hf
        obtain ⟨f0, f1, f2, f3, f4, f5, f6, f7, f8, -⟩:=hf
        change f 71 = _ at f0
        change f 72 = _ at f1
        change f 73 = _ at f2
        change f 74 = _ at f3
        change f 75 = _ at f4
        change f 76 = _ at f5
        change f 77 = _ at f6
        change f 78 = _ at f7
        change f 79 = _ at f8
        simp only [headDsts, List.take_succ_cons, List.take_zero, List.filterMap_cons, List.filterMap_nil, setAll, f0, f1, f2, f3, f4, f5, f6, f7, f8, List.setIfInBounds_toArray, List.set_cons_succ, List.set_cons_zero, List.drop_succ_cons, List.drop_zero]
        clear f0 f1 f2 f3 f4 f5 f6 f7 f8 f
        have HR6:=lh hR
        have HAV6:=lh (HE.out.keep _ _ _ HAT6.out hR)
        have HSV6:=lh (HA6.out.kept0 hR)
        clear hR
        go_wp2_with (refine wl_invoke rfl _ _ _ _ rfl T pv (by simp [go_sem]) "putVarint" nm_putVarint [.int .i64 0] (by simp [go_sem]) _ (HE.out.varint [0, 0, 0, 0, 1, 2, 97] _ 0 (by omega) (by omega) HAV6.out (by have h8:=HCAP.out; rw [uv0]; simp only [List.length_cons, List.length_nil]; omega)) ?_; rintro e w7 ⟨rfl, ha, hk⟩; refine ⟨_, rfl, ?_⟩; have HAT7:=lh (show At [0, 0, 0, 0, 1, 2, 97, 0] w7 by have h9:=ha; rw [uv0] at h9; exact h9); have HX7:=lh ((HR6.out.mono (T:=S) (by simp)).trans hk (fun x hx => .inl hx)); have HS7:=lh (HS6.out.trans HX7.out (fun x hx => .inl hx)); have HF7:=lh (HF6.out.keep HX7.out HGS.out); have HA7:=lh (HA6.out.kept HX7.out (fun b hb => by cases hb; exact HAS.out)); have hc0:=HF7.out.cell 0 _ rfl; clear ha hk)
        refine wp_loop_once ?_
        go_wp2_with (refine wl_invoke rfl _ _ _ _ rfl T pv (by simp [go_sem]) "pop" nm_pop [] (by simp [go_sem]) _ (HPOP.out w7 HS7.out HAT7.out) ?_; rintro e w8 ⟨rfl, hq, hk⟩; refine ⟨_, rfl, ?_⟩; have HQ:=lh hq; have HK8:=lh hk; clear hq hk)
        go_ret
        exact ⟨rfl, HQ.out, (HK1.out.trans (HS7.out.mono (fun x hx => List.mem_cons_of_mem _ hx)) (fun x hx => .inl hx)).trans HK8.out (fun x hx => .inl hx)⟩
end Go.Proofs.YtmpjikihnmagoaaGreatDoor
