/-
  A field is popped from a coder (199, 237, 170). Conditions: the field is all that stands on the stack.
-/
import Derived.Test.YtmpjikihnmagoaaGreatDoorZT55
set_option maxRecDepth 100000
set_option maxHeartbeats 3200000
namespace Go.Proofs.YtmpjikihnmagoaaGreatDoor
open Go.RowKit
def ppc1F (p y c : Nat) (f : Value) (ix : Nat) (v : Value) (_ : World) : Prop :=
 match ix with
 | 0 => v = .pointer (some ⟨p, 0, none⟩)
 | 1 => v = .pointer (some ⟨p, 0, none⟩)
 | 2 => v = .pointer (some ⟨p, 0, none⟩)
 | 3 => v = .slice (some ⟨y, 0, none⟩) 1 c
 | 4 => v = .pointer (some ⟨p, 0, none⟩)
 | 5 => v = .pointer (some ⟨p, 0, none⟩)
 | 6 => v = .pointer (some ⟨p, 0, none⟩)
 | 7 => v = .slice (some ⟨y, 0, none⟩) 1 c
 | 8 => v = .int .i64 1
 | 9 => v = .int .i64 0
 | 10 => v = .pointer (some ⟨y, 0, none⟩)
 | 11 => v = .iface 296 f
 | _ => True
theorem ppc1F_stable {p y c f} : ∀ ix v w w', ppc1F p y c f ix v w → Kept [] w w' → ppc1F p y c f ix v w':=by
 intro ix v w w' h k
 unfold ppc1F at h ⊢
 split at h <;> (first | (exact h))
def ppc2F (p y c : Nat) (_f : Value) (ix : Nat) (v : Value) (_ : World) : Prop :=
 match ix with
 | 0 => v = .pointer (some ⟨p, 0, none⟩)
 | 1 => v = .pointer (some ⟨p, 0, none⟩)
 | 2 => v = .pointer (some ⟨p, 0, none⟩)
 | 3 => v = .pointer (some ⟨p, 0, none⟩)
 | 4 => v = .slice (some ⟨y, 0, none⟩) 1 c
 | 5 => v = .pointer (some ⟨p, 0, none⟩)
 | 6 => v = .pointer (some ⟨p, 0, none⟩)
 | 7 => v = .pointer (some ⟨p, 0, none⟩)
 | 8 => v = .slice (some ⟨y, 0, none⟩) 1 c
 | 9 => v = .int .i64 1
 | 10 => v = .int .i64 0
 | 11 => v = .slice (some ⟨y, 0, none⟩) 0 c
 | 12 => v = .pointer (some ⟨p, 0, none⟩)
 | 13 => v = .pointer (some ⟨p, 0, none⟩)
 | _ => True
theorem ppc2F_stable {p y c f} : ∀ ix v w w', ppc2F p y c f ix v w → Kept [] w w' → ppc2F p y c f ix v w':=by
 intro ix v w w' h k
 unfold ppc2F at h ⊢
 split at h <;> (first | (exact h))
theorem prep_pop_crc (p y c m : Nat) (f : Value) (w : World) (hp : w.heap[p]? = some (.cells #[.slice (some ⟨y, 0, none⟩) 1 c, .int .i64 m] 163 (0, 0))) (hy : SlIs w 1 (some ⟨y, 0, none⟩) 1 [.iface 296 f]) : Calls Tryz.prog 199 #[.pointer (some ⟨p, 0, none⟩)] w (fun e w' => e = .returned .nilIface ∧ w'.heap[p]? = some (.cells #[.slice (some ⟨y, 0, none⟩) 0 c, .int .i64 m] 163 (0, 0)) ∧ Kept [p] w w'):=by
 have hy0 : w.cell? ⟨y, 0, none⟩ = some (.iface 296 f):=by
  have h1:=(hy.2.2 (by omega))
  obtain ⟨g1, o1, he, h2⟩:=h1
  cases he
  simpa using h2 0 _ rfl
 have HY:=lh hy0
 have hcell : ∀ (W : World) (st : Value), W.heap[p]? = some (.cells #[st, .int .i64 m] 163 (0, 0)) → W.cell? ⟨p, 0, none⟩ = some st ∧ W.cell? ⟨p, 1, none⟩ = some (.int .i64 m) ∧ ∀ o, W.frozen? ⟨p, o, none⟩ = false:=fun W st h => by simp [World.cell?, World.frozen?, h]
 have HCELL:=lh hcell
 have HP0:=lh hp
 have HP:=lh (hcell _ _ hp)
 have hta:=assert_crc f
 clear hp hy hy0 hcell
 go_enter Tryz.func199, Tryz.ntmps199
 go_wp2
 refine wp_region_facts' 12 (Kept []) (ppc1F p y c f) mixed (by kernel_rfl) (Kept.refl _ _).drew (fun _ _ _ h k => h.trans k (fun x hx => .inl hx)) ppc1F_stable ?_ ?_
 ·refine ⟨?_, ?_, ?_, ?_, ?_, ?_, ?_, ?_, ?_, ?_, ?_, ?_, trivial⟩
  all_goals go_light
  all_goals intro a W hR hs hd
  all_goals have p0 : a.tmps[0]? = some (.pointer (some ⟨p, 0, none⟩)):=hs.2.2 0 (by decide)
  all_goals have hRr : Kept [] W W:=Kept.refl _ _
  all_goals have m_p_0 : W.cell? ⟨p, 0, none⟩ = some (.slice (some ⟨y, 0, none⟩) 1 c):=hR.cell (HP.out.1) (by simp)
  all_goals have m_y_0 : W.cell? ⟨y, 0, none⟩ = some (.iface 296 f):=hR.cell (HY.out) (by simp)
  ·refine ov W (.pointer (some ⟨p, 0, none⟩)) ?_ (.mk hRr rfl rfl)
   simp [go_sem, p0]
  ·have q0 : _ = _:=hd.1 rfl
   refine ov W (.pointer (some ⟨p, 0, none⟩)) ?_ (.mk hRr rfl rfl)
   simp [go_sem, q0]
  ·have q1 : _ = _:=hd.1 rfl
   refine ov W (.pointer (some ⟨p, 0, none⟩)) ?_ (.mk hRr rfl rfl)
   simp [go_sem, q1]
  ·have q2 : _ = _:=hd.1 rfl
   refine ov W (.slice (some ⟨y, 0, none⟩) 1 c) ?_ (.mk hRr rfl rfl)
   simp [go_sem, q2, m_p_0]
  ·refine ov W (.pointer (some ⟨p, 0, none⟩)) ?_ (.mk hRr rfl rfl)
   simp [go_sem, p0]
  ·have q4 : _ = _:=hd.1 rfl
   refine ov W (.pointer (some ⟨p, 0, none⟩)) ?_ (.mk hRr rfl rfl)
   simp [go_sem, q4]
  ·have q5 : _ = _:=hd.1 rfl
   refine ov W (.pointer (some ⟨p, 0, none⟩)) ?_ (.mk hRr rfl rfl)
   simp [go_sem, q5]
  ·have q6 : _ = _:=hd.1 rfl
   refine ov W (.slice (some ⟨y, 0, none⟩) 1 c) ?_ (.mk hRr rfl rfl)
   simp [go_sem, q6, m_p_0]
  ·have q7 : _ = _:=hd.1 rfl
   refine ov W (.int .i64 1) ?_ (.mk hRr rfl rfl)
   simp [go_sem, q7]
  ·have q8 : _ = _:=hd.1 rfl
   refine ov W (.int .i64 0) ?_ (.mk hRr rfl rfl)
   simp [go_sem, q8]
   rfl
  ·have q3 : _ = _:=hd.1 rfl
   have q9 : _ = _:=hd.2.1 rfl
   refine ov W (.pointer (some ⟨y, 0, none⟩)) ?_ (.mk hRr rfl rfl)
   simp [go_sem, q3, q9]
  ·have q10 : _ = _:=hd.1 rfl
   refine ov W (.iface 296 f) ?_ (.mk hRr rfl rfl)
   simp [go_sem, q10, m_y_0]
 ·intro f W1 hR hf
  obtain ⟨f0, f1, f2, f3, f4, f5, f6, f7, f8, f9, f10, f11, -⟩:=hf
  change f 6 = _ at f0
  change f 7 = _ at f1
  change f 8 = _ at f2
  change f 9 = _ at f3
  change f 10 = _ at f4
  change f 11 = _ at f5
  change f 12 = _ at f6
  change f 13 = _ at f7
  change f 14 = _ at f8
  change f 15 = _ at f9
  change f 16 = _ at f10
  change f 17 = _ at f11
  simp only [headDsts, List.take_succ_cons, List.take_zero, List.filterMap_cons, List.filterMap_nil, setAll, f0, f1, f2, f3, f4, f5, f6, f7, f8, f9, f10, f11, List.setIfInBounds_toArray, List.set_cons_succ, List.set_cons_zero, List.drop_succ_cons, List.drop_zero]
  clear f0 f1 f2 f3 f4 f5 f6 f7 f8 f9 f10 f11 f
  have HK1:=lh hR
  have hp1:=hR.heap HP0.out (by simp)
  have HP01:=lh hp1
  have HP1:=lh (HCELL.out _ _ hp1)
  clear hR hp1
  go_wp2
  refine wp_region_facts' 14 (Kept []) (ppc2F p y c f) mixed (by kernel_rfl) (Kept.refl _ _).drew (fun _ _ _ h k => h.trans k (fun x hx => .inl hx)) ppc2F_stable ?_ ?_
  ·refine ⟨?_, ?_, ?_, ?_, ?_, ?_, ?_, ?_, ?_, ?_, ?_, ?_, ?_, ?_, trivial⟩
   all_goals go_light
   all_goals intro a W hR hs hd
   all_goals have p0 : a.tmps[0]? = some (.pointer (some ⟨p, 0, none⟩)):=hs.2.2 0 (by decide)
   all_goals have hRr : Kept [] W W:=Kept.refl _ _
   all_goals have m_p_0 : W.cell? ⟨p, 0, none⟩ = some (.slice (some ⟨y, 0, none⟩) 1 c):=hR.cell (HP1.out.1) (by simp)
   ·refine ov W (.pointer (some ⟨p, 0, none⟩)) ?_ (.mk hRr rfl rfl)
    simp [go_sem, p0]
   ·refine ov W (.pointer (some ⟨p, 0, none⟩)) ?_ (.mk hRr rfl rfl)
    simp [go_sem, p0]
   ·have q1 : _ = _:=hd.1 rfl
    refine ov W (.pointer (some ⟨p, 0, none⟩)) ?_ (.mk hRr rfl rfl)
    simp [go_sem, q1]
   ·have q2 : _ = _:=hd.1 rfl
    refine ov W (.pointer (some ⟨p, 0, none⟩)) ?_ (.mk hRr rfl rfl)
    simp [go_sem, q2]
   ·have q3 : _ = _:=hd.1 rfl
    refine ov W (.slice (some ⟨y, 0, none⟩) 1 c) ?_ (.mk hRr rfl rfl)
    simp [go_sem, q3, m_p_0]
   ·refine ov W (.pointer (some ⟨p, 0, none⟩)) ?_ (.mk hRr rfl rfl)
    simp [go_sem, p0]
   ·have q5 : _ = _:=hd.1 rfl
    refine ov W (.pointer (some ⟨p, 0, none⟩)) ?_ (.mk hRr rfl rfl)
    simp [go_sem, q5]
   ·have q6 : _ = _:=hd.1 rfl
    refine ov W (.pointer (some ⟨p, 0, none⟩)) ?_ (.mk hRr rfl rfl)
    simp [go_sem, q6]
   ·have q7 : _ = _:=hd.1 rfl
    refine ov W (.slice (some ⟨y, 0, none⟩) 1 c) ?_ (.mk hRr rfl rfl)
    simp [go_sem, q7, m_p_0]
   ·have q8 : _ = _:=hd.1 rfl
    refine ov W (.int .i64 1) ?_ (.mk hRr rfl rfl)
    simp [go_sem, q8]
   ·have q9 : _ = _:=hd.1 rfl
    refine ov W (.int .i64 0) ?_ (.mk hRr rfl rfl)
    simp [go_sem, q9]
    rfl
   ·have q4 : _ = _:=hd.1 rfl
    have q10 : _ = _:=hd.2.1 rfl
    refine ov W (.slice (some ⟨y, 0, none⟩) 0 c) ?_ (.mk hRr rfl rfl)
    simp [go_sem, q4, q10, cut161]
   ·have q0 : _ = _:=hd.1 rfl
    refine ov W (.pointer (some ⟨p, 0, none⟩)) ?_ (.mk hRr rfl rfl)
    simp [go_sem, q0]
   ·have q12 : _ = _:=hd.1 rfl
    refine ov W (.pointer (some ⟨p, 0, none⟩)) ?_ (.mk hRr rfl rfl)
    simp [go_sem, q12]
  ·intro f W2 hR hf
   obtain ⟨f0, f1, f2, f3, f4, f5, f6, f7, f8, f9, f10, f11, f12, f13, -⟩:=hf
   change f 18 = _ at f0
   change f 19 = _ at f1
   change f 20 = _ at f2
   change f 21 = _ at f3
   change f 22 = _ at f4
   change f 23 = _ at f5
   change f 24 = _ at f6
   change f 25 = _ at f7
   change f 26 = _ at f8
   change f 27 = _ at f9
   change f 28 = _ at f10
   change f 29 = _ at f11
   change f 30 = _ at f12
   change f 31 = _ at f13
   simp only [headDsts, List.take_succ_cons, List.take_zero, List.filterMap_cons, List.filterMap_nil, setAll, f0, f1, f2, f3, f4, f5, f6, f7, f8, f9, f10, f11, f12, f13, List.setIfInBounds_toArray, List.set_cons_succ, List.set_cons_zero, List.drop_succ_cons, List.drop_zero]
   clear f0 f1 f2 f3 f4 f5 f6 f7 f8 f9 f10 f11 f12 f13 f
   have HK2:=lh (HK1.out.trans0 hR)
   have hp2:=hR.heap HP01.out (by simp)
   have h2f:=(HCELL.out _ _ hp2).2.2 0
   have h2c:=(HCELL.out _ _ hp2).1
   have HP2:=lh hp2
   clear hR hp2
   go_wp2
   go_ret
   have h5:=heap_setCell_same W2 p 0 _ _ (.slice (some ⟨y, 0, none⟩) 0 c) HP2.out
   exact ⟨rfl, h5, (HK2.out.mono (by simp)).trans (kept_set p 0 _ _) (fun x hx => .inl hx)⟩
def rpp3F (p r N k : Nat) (Tf : TypeId) (f : Value) (ix : Nat) (v : Value) (_ : World) : Prop :=
 match ix with
 | 0 => v = .iface Tf f
 | 1 => v = .pointer (some ⟨p, 0, none⟩)
 | 2 => v = .pointer (some ⟨p, 0, none⟩)
 | 3 => v = .pointer (some ⟨p, 1, none⟩)
 | 4 => v = .int .i64 k
 | 5 => v = .pointer (some ⟨p, 0, none⟩)
 | 6 => v = .pointer (some ⟨p, 0, none⟩)
 | 7 => v = .pointer (some ⟨p, 0, none⟩)
 | 8 => v = .slice (some ⟨r, 0, none⟩) N N
 | 9 => v = .func (.method "pub-kestrel/pub/sarama.run") #[.iface Tf f] #[]
 | 10 => v = .func (.method "pub-kestrel/pub/sarama.run") #[.iface Tf f] #[]
 | 11 => v = .iface Tf f
 | _ => True
theorem rpp3F_stable {p r N k Tf f} : ∀ ix v w w', rpp3F p r N k Tf f ix v w → Kept [] w w' → rpp3F p r N k Tf f ix v w':=by
 intro ix v w w' h k
 unfold rpp3F at h ⊢
 split at h <;> (first | (exact h))
def rpp1F (p y c : Nat) (Tf : TypeId) (f : Value) (ix : Nat) (v : Value) (_ : World) : Prop :=
 match ix with
 | 0 => v = .pointer (some ⟨p, 0, none⟩)
 | 1 => v = .pointer (some ⟨p, 0, none⟩)
 | 2 => v = .pointer (some ⟨p, 2, none⟩)
 | 3 => v = .slice (some ⟨y, 0, none⟩) 1 c
 | 4 => v = .pointer (some ⟨p, 0, none⟩)
 | 5 => v = .pointer (some ⟨p, 0, none⟩)
 | 6 => v = .pointer (some ⟨p, 2, none⟩)
 | 7 => v = .slice (some ⟨y, 0, none⟩) 1 c
 | 8 => v = .int .i64 1
 | 9 => v = .int .i64 0
 | 10 => v = .pointer (some ⟨y, 0, none⟩)
 | 11 => v = .iface Tf f
 | _ => True
theorem rpp1F_stable {p y c Tf f} : ∀ ix v w w', rpp1F p y c Tf f ix v w → Kept [] w w' → rpp1F p y c Tf f ix v w':=by
 intro ix v w w' h k
 unfold rpp1F at h ⊢
 split at h <;> (first | (exact h))
def rpp2F (p y c : Nat) (_Tf : TypeId) (_f : Value) (ix : Nat) (v : Value) (_ : World) : Prop :=
 match ix with
 | 0 => v = .pointer (some ⟨p, 0, none⟩)
 | 1 => v = .pointer (some ⟨p, 0, none⟩)
 | 2 => v = .pointer (some ⟨p, 0, none⟩)
 | 3 => v = .pointer (some ⟨p, 2, none⟩)
 | 4 => v = .slice (some ⟨y, 0, none⟩) 1 c
 | 5 => v = .pointer (some ⟨p, 0, none⟩)
 | 6 => v = .pointer (some ⟨p, 0, none⟩)
 | 7 => v = .pointer (some ⟨p, 2, none⟩)
 | 8 => v = .slice (some ⟨y, 0, none⟩) 1 c
 | 9 => v = .int .i64 1
 | 10 => v = .int .i64 0
 | 11 => v = .slice (some ⟨y, 0, none⟩) 0 c
 | 12 => v = .pointer (some ⟨p, 0, none⟩)
 | 13 => v = .pointer (some ⟨p, 2, none⟩)
 | _ => True
theorem rpp2F_stable {p y c Tf f} : ∀ ix v w w', rpp2F p y c Tf f ix v w → Kept [] w w' → rpp2F p y c Tf f ix v w':=by
 intro ix v w w' h k
 unfold rpp2F at h ⊢
 split at h <;> (first | (exact h))
theorem real_pop (p y c r N k : Nat) (Tf : TypeId) (f : Value) (Q : World → Prop) (S : List Nat) (w : World) (hp : w.heap[p]? = some (.cells #[.slice (some ⟨r, 0, none⟩) N N, .int .i64 k, .slice (some ⟨y, 0, none⟩) 1 c] 174 (0, 0))) (hy : SlIs w 1 (some ⟨y, 0, none⟩) 1 [.iface Tf f]) (hrun : ∀ W, Kept [p] w W → Inv Tf f "run" [.int .i64 k, .slice (some ⟨r, 0, none⟩) N N] W (fun e w' => e = .returned .nilIface ∧ Q w' ∧ Kept S W w')) : Calls Tryz.prog 237 #[.pointer (some ⟨p, 0, none⟩)] w (fun e w' => e = .returned .nilIface ∧ Q w' ∧ ∃ W, W.heap[p]? = some (.cells #[.slice (some ⟨r, 0, none⟩) N N, .int .i64 k, .slice (some ⟨y, 0, none⟩) 0 c] 174 (0, 0)) ∧ Kept [p] w W ∧ Kept S W w'):=by
 have hy0 : w.cell? ⟨y, 0, none⟩ = some (.iface Tf f):=by
  have h1:=(hy.2.2 (by omega))
  obtain ⟨g1, o1, he, h2⟩:=h1
  cases he
  simpa using h2 0 _ rfl
 have HY:=lh hy0
 have hcell : ∀ (W : World) (st : Value), W.heap[p]? = some (.cells #[.slice (some ⟨r, 0, none⟩) N N, .int .i64 k, st] 174 (0, 0)) → W.cell? ⟨p, 2, none⟩ = some st ∧ (W.cell? ⟨p, 1, none⟩ = some (.int .i64 k) ∧ W.cell? ⟨p, 0, none⟩ = some (.slice (some ⟨r, 0, none⟩) N N)) ∧ ∀ o, W.frozen? ⟨p, o, none⟩ = false:=fun W st h => by simp [World.cell?, World.frozen?, h]
 have HCELL:=lh hcell
 have HP0:=lh hp
 have HP:=lh (hcell _ _ hp)
 have HNA : Hid (∀ W, Kept [p] w W → (nilAhead 483 Tf f "pub-kestrel/pub/sarama.run").run Tryz.prog W = .ok (some false) W):=lh fun W hk => by
  obtain ⟨_, _, _, _, h9, _⟩:=hrun W hk
  exact h9
 have HRUN:=lh hrun
 clear hrun
 clear hp hy hy0 hcell
 go_enter Tryz.func237, Tryz.ntmps237
 go_wp2
 refine wp_region_facts' 12 (Kept []) (rpp1F p y c Tf f) mixed (by kernel_rfl) (Kept.refl _ _).drew (fun _ _ _ h k => h.trans k (fun x hx => .inl hx)) rpp1F_stable ?_ ?_
 ·refine ⟨?_, ?_, ?_, ?_, ?_, ?_, ?_, ?_, ?_, ?_, ?_, ?_, trivial⟩
  all_goals go_light
  all_goals intro a W hR hs hd
  all_goals have p0 : a.tmps[0]? = some (.pointer (some ⟨p, 0, none⟩)):=hs.2.2 0 (by decide)
  all_goals have hRr : Kept [] W W:=Kept.refl _ _
  all_goals have m_p_2 : W.cell? ⟨p, 2, none⟩ = some (.slice (some ⟨y, 0, none⟩) 1 c):=hR.cell (HP.out.1) (by simp)
  all_goals have m_y_0 : W.cell? ⟨y, 0, none⟩ = some (.iface Tf f):=hR.cell (HY.out) (by simp)
  ·refine ov W (.pointer (some ⟨p, 0, none⟩)) ?_ (.mk hRr rfl rfl)
   simp [go_sem, p0]
  ·have q0 : _ = _:=hd.1 rfl
   refine ov W (.pointer (some ⟨p, 0, none⟩)) ?_ (.mk hRr rfl rfl)
   simp [go_sem, q0]
  ·have q1 : _ = _:=hd.1 rfl
   refine ov W (.pointer (some ⟨p, 2, none⟩)) ?_ (.mk hRr rfl rfl)
   simp [go_sem, q1]
  ·have q2 : _ = _:=hd.1 rfl
   refine ov W (.slice (some ⟨y, 0, none⟩) 1 c) ?_ (.mk hRr rfl rfl)
   simp [go_sem, q2, m_p_2]
  ·refine ov W (.pointer (some ⟨p, 0, none⟩)) ?_ (.mk hRr rfl rfl)
   simp [go_sem, p0]
  ·have q4 : _ = _:=hd.1 rfl
   refine ov W (.pointer (some ⟨p, 0, none⟩)) ?_ (.mk hRr rfl rfl)
   simp [go_sem, q4]
  ·have q5 : _ = _:=hd.1 rfl
   refine ov W (.pointer (some ⟨p, 2, none⟩)) ?_ (.mk hRr rfl rfl)
   simp [go_sem, q5]
  ·have q6 : _ = _:=hd.1 rfl
   refine ov W (.slice (some ⟨y, 0, none⟩) 1 c) ?_ (.mk hRr rfl rfl)
   simp [go_sem, q6, m_p_2]
  ·have q7 : _ = _:=hd.1 rfl
   refine ov W (.int .i64 1) ?_ (.mk hRr rfl rfl)
   simp [go_sem, q7]
  ·have q8 : _ = _:=hd.1 rfl
   refine ov W (.int .i64 0) ?_ (.mk hRr rfl rfl)
   simp [go_sem, q8]
   rfl
  ·have q3 : _ = _:=hd.1 rfl
   have q9 : _ = _:=hd.2.1 rfl
   refine ov W (.pointer (some ⟨y, 0, none⟩)) ?_ (.mk hRr rfl rfl)
   simp [go_sem, q3, q9]
  ·have q10 : _ = _:=hd.1 rfl
   refine ov W (.iface Tf f) ?_ (.mk hRr rfl rfl)
   simp [go_sem, q10, m_y_0]
 ·intro f W1 hR hf
  obtain ⟨f0, f1, f2, f3, f4, f5, f6, f7, f8, f9, f10, f11, -⟩:=hf
  change f 4 = _ at f0
  change f 5 = _ at f1
  change f 6 = _ at f2
  change f 7 = _ at f3
  change f 8 = _ at f4
  change f 9 = _ at f5
  change f 10 = _ at f6
  change f 11 = _ at f7
  change f 12 = _ at f8
  change f 13 = _ at f9
  change f 14 = _ at f10
  change f 15 = _ at f11
  simp only [headDsts, List.take_succ_cons, List.take_zero, List.filterMap_cons, List.filterMap_nil, setAll, f0, f1, f2, f3, f4, f5, f6, f7, f8, f9, f10, f11, List.setIfInBounds_toArray, List.set_cons_succ, List.set_cons_zero, List.drop_succ_cons, List.drop_zero]
  clear f0 f1 f2 f3 f4 f5 f6 f7 f8 f9 f10 f11 f
  have HK1:=lh hR
  have hp1:=hR.heap HP0.out (by simp)
  have HP01:=lh hp1
  have HP1:=lh (HCELL.out _ _ hp1)
  clear hR hp1
  go_wp2
  refine wp_region_facts' 14 (Kept []) (rpp2F p y c Tf f) mixed (by kernel_rfl) (Kept.refl _ _).drew (fun _ _ _ h k => h.trans k (fun x hx => .inl hx)) rpp2F_stable ?_ ?_
  ·refine ⟨?_, ?_, ?_, ?_, ?_, ?_, ?_, ?_, ?_, ?_, ?_, ?_, ?_, ?_, trivial⟩
   all_goals go_light
   all_goals intro a W hR hs hd
   all_goals have p0 : a.tmps[0]? = some (.pointer (some ⟨p, 0, none⟩)):=hs.2.2 0 (by decide)
   all_goals have hRr : Kept [] W W:=Kept.refl _ _
   all_goals have m_p_2 : W.cell? ⟨p, 2, none⟩ = some (.slice (some ⟨y, 0, none⟩) 1 c):=hR.cell (HP1.out.1) (by simp)
   ·refine ov W (.pointer (some ⟨p, 0, none⟩)) ?_ (.mk hRr rfl rfl)
    simp [go_sem, p0]
   ·refine ov W (.pointer (some ⟨p, 0, none⟩)) ?_ (.mk hRr rfl rfl)
    simp [go_sem, p0]
   ·have q1 : _ = _:=hd.1 rfl
    refine ov W (.pointer (some ⟨p, 0, none⟩)) ?_ (.mk hRr rfl rfl)
    simp [go_sem, q1]
   ·have q2 : _ = _:=hd.1 rfl
    refine ov W (.pointer (some ⟨p, 2, none⟩)) ?_ (.mk hRr rfl rfl)
    simp [go_sem, q2]
   ·have q3 : _ = _:=hd.1 rfl
    refine ov W (.slice (some ⟨y, 0, none⟩) 1 c) ?_ (.mk hRr rfl rfl)
    simp [go_sem, q3, m_p_2]
   ·refine ov W (.pointer (some ⟨p, 0, none⟩)) ?_ (.mk hRr rfl rfl)
    simp [go_sem, p0]
   ·have q5 : _ = _:=hd.1 rfl
    refine ov W (.pointer (some ⟨p, 0, none⟩)) ?_ (.mk hRr rfl rfl)
    simp [go_sem, q5]
   ·have q6 : _ = _:=hd.1 rfl
    refine ov W (.pointer (some ⟨p, 2, none⟩)) ?_ (.mk hRr rfl rfl)
    simp [go_sem, q6]
   ·have q7 : _ = _:=hd.1 rfl
    refine ov W (.slice (some ⟨y, 0, none⟩) 1 c) ?_ (.mk hRr rfl rfl)
    simp [go_sem, q7, m_p_2]
   ·have q8 : _ = _:=hd.1 rfl
    refine ov W (.int .i64 1) ?_ (.mk hRr rfl rfl)
    simp [go_sem, q8]
   ·have q9 : _ = _:=hd.1 rfl
    refine ov W (.int .i64 0) ?_ (.mk hRr rfl rfl)
    simp [go_sem, q9]
    rfl
   ·have q4 : _ = _:=hd.1 rfl
    have q10 : _ = _:=hd.2.1 rfl
    refine ov W (.slice (some ⟨y, 0, none⟩) 0 c) ?_ (.mk hRr rfl rfl)
    simp [go_sem, q4, q10, cut161]
   ·have q0 : _ = _:=hd.1 rfl
    refine ov W (.pointer (some ⟨p, 0, none⟩)) ?_ (.mk hRr rfl rfl)
    simp [go_sem, q0]
   ·have q12 : _ = _:=hd.1 rfl
    refine ov W (.pointer (some ⟨p, 2, none⟩)) ?_ (.mk hRr rfl rfl)
    simp [go_sem, q12]
  ·intro f W2 hR hf
   obtain ⟨f0, f1, f2, f3, f4, f5, f6, f7, f8, f9, f10, f11, f12, f13, -⟩:=hf
   change f 16 = _ at f0
   change f 17 = _ at f1
   change f 18 = _ at f2
   change f 19 = _ at f3
   change f 20 = _ at f4
   change f 21 = _ at f5
   change f 22 = _ at f6
   change f 23 = _ at f7
   change f 24 = _ at f8
   change f 25 = _ at f9
   change f 26 = _ at f10
   change f 27 = _ at f11
   change f 28 = _ at f12
   change f 29 = _ at f13
   simp only [headDsts, List.take_succ_cons, List.take_zero, List.filterMap_cons, List.filterMap_nil, setAll, f0, f1, f2, f3, f4, f5, f6, f7, f8, f9, f10, f11, f12, f13, List.setIfInBounds_toArray, List.set_cons_succ, List.set_cons_zero, List.drop_succ_cons, List.drop_zero]
   clear f0 f1 f2 f3 f4 f5 f6 f7 f8 f9 f10 f11 f12 f13 f
   have HK2:=lh (HK1.out.trans0 hR)
   have hp2:=hR.heap HP01.out (by simp)
   have h2f:=(HCELL.out _ _ hp2).2.2 2
   have h2c:=(HCELL.out _ _ hp2).1
   have HP2:=lh hp2
   clear hR hp2
   go_wp2
   obtain ⟨W3, hW3⟩ : ∃ W3, W2.setCell ⟨p, 2, none⟩ (.slice (some ⟨y, 0, none⟩) 0 c) = W3:=⟨_, rfl⟩
   have hp3 : W3.heap[p]? = some (.cells #[.slice (some ⟨r, 0, none⟩) N N, .int .i64 k, .slice (some ⟨y, 0, none⟩) 0 c] 174 (0, 0)):=by
    rw [← hW3]
    exact heap_setCell_same W2 p 2 _ _ _ HP2.out
   have hk3 : Kept [p] w W3:=by
    rw [← hW3]
    exact (HK2.out.mono (by simp)).trans (kept_set p 2 _ _) (fun x hx => .inl hx)
   rw [hW3]
   have HK3:=lh hk3
   have HP03:=lh hp3
   have HP3:=lh (HCELL.out _ _ hp3)
   clear hW3 hp3 hk3 h2f h2c
   refine wp_region_facts' 12 (Kept []) (rpp3F p r N k Tf f) mixed (by kernel_rfl) (Kept.refl _ _).drew (fun _ _ _ h k => h.trans k (fun x hx => .inl hx)) rpp3F_stable ?_ ?_
   ·refine ⟨?_, ?_, ?_, ?_, ?_, ?_, ?_, ?_, ?_, ?_, ?_, ?_, trivial⟩
    all_goals go_light
    all_goals intro a W hR hs hd
    all_goals have p0 : a.tmps[0]? = some (.pointer (some ⟨p, 0, none⟩)):=hs.2.2 0 (by decide)
    all_goals have p3 : a.tmps[3]? = some (.iface Tf f):=hs.2.2 3 (by decide)
    all_goals have hRr : Kept [] W W:=Kept.refl _ _
    all_goals have m_p_1 : W.cell? ⟨p, 1, none⟩ = some (.int .i64 k):=hR.cell (HP3.out.2.1.1) (by simp)
    all_goals have m_p_0 : W.cell? ⟨p, 0, none⟩ = some (.slice (some ⟨r, 0, none⟩) N N):=hR.cell (HP3.out.2.1.2) (by simp)
    all_goals have hna_run:=HNA.out W (HK3.out.trans (hR.mono (T:=[p]) (by simp)) (fun x hx => .inl hx))
    ·refine ov W (.iface Tf f) ?_ (.mk hRr rfl rfl)
     simp [go_sem, p3]
    ·refine ov W (.pointer (some ⟨p, 0, none⟩)) ?_ (.mk hRr rfl rfl)
     simp [go_sem, p0]
    ·have q1 : _ = _:=hd.1 rfl
     refine ov W (.pointer (some ⟨p, 0, none⟩)) ?_ (.mk hRr rfl rfl)
     simp [go_sem, q1]
    ·have q2 : _ = _:=hd.1 rfl
     refine ov W (.pointer (some ⟨p, 1, none⟩)) ?_ (.mk hRr rfl rfl)
     simp [go_sem, q2]
    ·have q3 : _ = _:=hd.1 rfl
     refine ov W (.int .i64 k) ?_ (.mk hRr rfl rfl)
     simp [go_sem, q3, m_p_1]
    ·refine ov W (.pointer (some ⟨p, 0, none⟩)) ?_ (.mk hRr rfl rfl)
     simp [go_sem, p0]
    ·have q5 : _ = _:=hd.1 rfl
     refine ov W (.pointer (some ⟨p, 0, none⟩)) ?_ (.mk hRr rfl rfl)
     simp [go_sem, q5]
    ·have q6 : _ = _:=hd.1 rfl
     refine ov W (.pointer (some ⟨p, 0, none⟩)) ?_ (.mk hRr rfl rfl)
     simp [go_sem, q6]
    ·have q7 : _ = _:=hd.1 rfl
     refine ov W (.slice (some ⟨r, 0, none⟩) N N) ?_ (.mk hRr rfl rfl)
     simp [go_sem, q7, m_p_0]
    ·have q0 : _ = _:=hd.1 rfl
     refine ov W (.func (.method "pub-kestrel/pub/sarama.run") #[.iface Tf f] #[]) ?_ (.mk hRr rfl rfl)
     simp [go_sem, q0]
    ·have q9 : _ = _:=hd.1 rfl
     refine ov W (.func (.method "pub-kestrel/pub/sarama.run") #[.iface Tf f] #[]) ?_ (.mk hRr rfl rfl)
     simp [go_sem, q9, hna_run]
    ·have q0 : _ = _:=hd.1 rfl
     have q9 : _ = _:=hd.2.1 rfl
     have q10 : _ = _:=hd.2.2.1 rfl
     refine ov W (.iface Tf f) ?_ (.mk hRr rfl rfl)
     simp [go_sem, q0]
   ·intro f W4 hR hf
    obtain ⟨f0, f1, f2, f3, f4, f5, f6, f7, f8, f9, f10, f11, -⟩:=hf
    change f 30 = _ at f0
    change f 31 = _ at f1
    change f 32 = _ at f2
    change f 33 = _ at f3
    change f 34 = _ at f4
    change f 35 = _ at f5
    change f 36 = _ at f6
    change f 37 = _ at f7
    change f 38 = _ at f8
    change f 39 = _ at f9
    change f 40 = _ at f10
    change f 41 = _ at f11
    simp only [headDsts, List.take_succ_cons, List.take_zero, List.filterMap_cons, List.filterMap_nil, setAll, f0, f1, f2, f3, f4, f5, f6, f7, f8, f9, f10, f11, List.setIfInBounds_toArray, List.set_cons_succ, List.set_cons_zero, List.drop_succ_cons, List.drop_zero]
    clear f0 f1 f2 f3 f4 f5 f6 f7 f8 f9 f10 f11 f
    have HK4:=lh (HK3.out.trans (hR.mono (T:=[p]) (by simp)) (fun x hx => .inl hx))
    have HP4:=lh (hR.heap HP03.out (by simp))
    clear hR
    go_wp2_with (refine wl_invoke rfl _ _ _ _ rfl Tf f rfl "run" rfl [.int .i64 k, .slice (some ⟨r, 0, none⟩) N N] (by simp [go_sem]) _ (HRUN.out _ HK4.out) ?_; rintro e w5 ⟨rfl, hq, hk5⟩; refine ⟨_, rfl, ?_⟩; have HQ:=lh hq; have HK5:=lh hk5; clear hq hk5)
    go_ret
    exact ⟨rfl, HQ.out, _, HP4.out, HK4.out, HK5.out⟩
def dpp3F (p : Nat) (A : Option Addr) (N cc k : Nat) (Tf : TypeId) (f : Value) (ix : Nat) (v : Value) (_ : World) : Prop :=
 match ix with
 | 0 => v = .iface Tf f
 | 1 => v = .pointer (some ⟨p, 0, none⟩)
 | 2 => v = .pointer (some ⟨p, 0, none⟩)
 | 3 => v = .pointer (some ⟨p, 1, none⟩)
 | 4 => v = .int .i64 k
 | 5 => v = .pointer (some ⟨p, 0, none⟩)
 | 6 => v = .pointer (some ⟨p, 0, none⟩)
 | 7 => v = .pointer (some ⟨p, 0, none⟩)
 | 8 => v = .slice A N cc
 | 9 => v = .func (.method "pub-kestrel/pub/sarama.check") #[.iface Tf f] #[]
 | 10 => v = .func (.method "pub-kestrel/pub/sarama.check") #[.iface Tf f] #[]
 | 11 => v = .iface Tf f
 | _ => True
theorem dpp3F_stable {p A N cc k Tf f} : ∀ ix v w w', dpp3F p A N cc k Tf f ix v w → Kept [] w w' → dpp3F p A N cc k Tf f ix v w':=by
 intro ix v w w' h k
 unfold dpp3F at h ⊢
 split at h <;> (first | (exact h))
def dpp1F (p y c : Nat) (Tf : TypeId) (f : Value) (ix : Nat) (v : Value) (_ : World) : Prop :=
 match ix with
 | 0 => v = .pointer (some ⟨p, 0, none⟩)
 | 1 => v = .pointer (some ⟨p, 0, none⟩)
 | 2 => v = .pointer (some ⟨p, 2, none⟩)
 | 3 => v = .slice (some ⟨y, 0, none⟩) 1 c
 | 4 => v = .pointer (some ⟨p, 0, none⟩)
 | 5 => v = .pointer (some ⟨p, 0, none⟩)
 | 6 => v = .pointer (some ⟨p, 2, none⟩)
 | 7 => v = .slice (some ⟨y, 0, none⟩) 1 c
 | 8 => v = .int .i64 1
 | 9 => v = .int .i64 0
 | 10 => v = .pointer (some ⟨y, 0, none⟩)
 | 11 => v = .iface Tf f
 | _ => True
theorem dpp1F_stable {p y c Tf f} : ∀ ix v w w', dpp1F p y c Tf f ix v w → Kept [] w w' → dpp1F p y c Tf f ix v w':=by
 intro ix v w w' h k
 unfold dpp1F at h ⊢
 split at h <;> (first | (exact h))
def dpp2F (p y c : Nat) (_Tf : TypeId) (_f : Value) (ix : Nat) (v : Value) (_ : World) : Prop :=
 match ix with
 | 0 => v = .pointer (some ⟨p, 0, none⟩)
 | 1 => v = .pointer (some ⟨p, 0, none⟩)
 | 2 => v = .pointer (some ⟨p, 0, none⟩)
 | 3 => v = .pointer (some ⟨p, 2, none⟩)
 | 4 => v = .slice (some ⟨y, 0, none⟩) 1 c
 | 5 => v = .pointer (some ⟨p, 0, none⟩)
 | 6 => v = .pointer (some ⟨p, 0, none⟩)
 | 7 => v = .pointer (some ⟨p, 2, none⟩)
 | 8 => v = .slice (some ⟨y, 0, none⟩) 1 c
 | 9 => v = .int .i64 1
 | 10 => v = .int .i64 0
 | 11 => v = .slice (some ⟨y, 0, none⟩) 0 c
 | 12 => v = .pointer (some ⟨p, 0, none⟩)
 | 13 => v = .pointer (some ⟨p, 2, none⟩)
 | _ => True
theorem dpp2F_stable {p y c Tf f} : ∀ ix v w w', dpp2F p y c Tf f ix v w → Kept [] w w' → dpp2F p y c Tf f ix v w':=by
 intro ix v w w' h k
 unfold dpp2F at h ⊢
 split at h <;> (first | (exact h))
theorem dec_pop (p y c : Nat) (A : Option Addr) (N cc k : Nat) (Tf : TypeId) (f : Value) (Q : World → Prop) (S : List Nat) (w : World) (hp : w.heap[p]? = some (.cells #[.slice A N cc, .int .i64 k, .slice (some ⟨y, 0, none⟩) 1 c] 151 (0, 0))) (hy : SlIs w 1 (some ⟨y, 0, none⟩) 1 [.iface Tf f]) (hrun : ∀ W, Kept [p] w W → Inv Tf f "check" [.int .i64 k, .slice A N cc] W (fun e w' => e = .returned .nilIface ∧ Q w' ∧ Kept S W w')) : Calls Tryz.prog 170 #[.pointer (some ⟨p, 0, none⟩)] w (fun e w' => e = .returned .nilIface ∧ Q w' ∧ ∃ W, W.heap[p]? = some (.cells #[.slice A N cc, .int .i64 k, .slice (some ⟨y, 0, none⟩) 0 c] 151 (0, 0)) ∧ Kept [p] w W ∧ Kept S W w'):=by
 have hy0 : w.cell? ⟨y, 0, none⟩ = some (.iface Tf f):=by
  have h1:=(hy.2.2 (by omega))
  obtain ⟨g1, o1, he, h2⟩:=h1
  cases he
  simpa using h2 0 _ rfl
 have HY:=lh hy0
 have hcell : ∀ (W : World) (st : Value), W.heap[p]? = some (.cells #[.slice A N cc, .int .i64 k, st] 151 (0, 0)) → W.cell? ⟨p, 2, none⟩ = some st ∧ (W.cell? ⟨p, 1, none⟩ = some (.int .i64 k) ∧ W.cell? ⟨p, 0, none⟩ = some (.slice A N cc)) ∧ ∀ o, W.frozen? ⟨p, o, none⟩ = false:=fun W st h => by simp [World.cell?, World.frozen?, h]
 have HCELL:=lh hcell
 have HP0:=lh hp
 have HP:=lh (hcell _ _ hp)
 have HNA : Hid (∀ W, Kept [p] w W → (nilAhead 483 Tf f "pub-kestrel/pub/sarama.check").run Tryz.prog W = .ok (some false) W):=lh fun W hk => by
  obtain ⟨_, _, _, _, h9, _⟩:=hrun W hk
  exact h9
 have HRUN:=lh hrun
 clear hrun
 clear hp hy hy0 hcell
 go_enter Tryz.func170, Tryz.ntmps170
 go_wp2
 refine wp_region_facts' 12 (Kept []) (dpp1F p y c Tf f) mixed (by kernel_rfl) (Kept.refl _ _).drew (fun _ _ _ h k => h.trans k (fun x hx => .inl hx)) dpp1F_stable ?_ ?_
 ·refine ⟨?_, ?_, ?_, ?_, ?_, ?_, ?_, ?_, ?_, ?_, ?_, ?_, trivial⟩
  all_goals go_light
  all_goals intro a W hR hs hd
  all_goals have p0 : a.tmps[0]? = some (.pointer (some ⟨p, 0, none⟩)):=hs.2.2 0 (by decide)
  all_goals have hRr : Kept [] W W:=Kept.refl _ _
  all_goals have m_p_2 : W.cell? ⟨p, 2, none⟩ = some (.slice (some ⟨y, 0, none⟩) 1 c):=hR.cell (HP.out.1) (by simp)
  all_goals have m_y_0 : W.cell? ⟨y, 0, none⟩ = some (.iface Tf f):=hR.cell (HY.out) (by simp)
  ·refine ov W (.pointer (some ⟨p, 0, none⟩)) ?_ (.mk hRr rfl rfl)
   simp [go_sem, p0]
  ·have q0 : _ = _:=hd.1 rfl
   refine ov W (.pointer (some ⟨p, 0, none⟩)) ?_ (.mk hRr rfl rfl)
   simp [go_sem, q0]
  ·have q1 : _ = _:=hd.1 rfl
   refine ov W (.pointer (some ⟨p, 2, none⟩)) ?_ (.mk hRr rfl rfl)
   simp [go_sem, q1]
  ·have q2 : _ = _:=hd.1 rfl
   refine ov W (.slice (some ⟨y, 0, none⟩) 1 c) ?_ (.mk hRr rfl rfl)
   simp [go_sem, q2, m_p_2]
  ·refine ov W (.pointer (some ⟨p, 0, none⟩)) ?_ (.mk hRr rfl rfl)
   simp [go_sem, p0]
  ·have q4 : _ = _:=hd.1 rfl
   refine ov W (.pointer (some ⟨p, 0, none⟩)) ?_ (.mk hRr rfl rfl)
   simp [go_sem, q4]
  ·have q5 : _ = _:=hd.1 rfl
   refine ov W (.pointer (some ⟨p, 2, none⟩)) ?_ (.mk hRr rfl rfl)
   simp [go_sem, q5]
  ·have q6 : _ = _:=hd.1 rfl
   refine ov W (.slice (some ⟨y, 0, none⟩) 1 c) ?_ (.mk hRr rfl rfl)
   simp [go_sem, q6, m_p_2]
  ·have q7 : _ = _:=hd.1 rfl
   refine ov W (.int .i64 1) ?_ (.mk hRr rfl rfl)
   simp [go_sem, q7]
  ·have q8 : _ = _:=hd.1 rfl
   refine ov W (.int .i64 0) ?_ (.mk hRr rfl rfl)
   simp [go_sem, q8]
   rfl
  ·have q3 : _ = _:=hd.1 rfl
   have q9 : _ = _:=hd.2.1 rfl
   refine ov W (.pointer (some ⟨y, 0, none⟩)) ?_ (.mk hRr rfl rfl)
   simp [go_sem, q3, q9]
  ·have q10 : _ = _:=hd.1 rfl
   refine ov W (.iface Tf f) ?_ (.mk hRr rfl rfl)
   simp [go_sem, q10, m_y_0]
 ·intro f W1 hR hf
  obtain ⟨f0, f1, f2, f3, f4, f5, f6, f7, f8, f9, f10, f11, -⟩:=hf
  change f 4 = _ at f0
  change f 5 = _ at f1
  change f 6 = _ at f2
  change f 7 = _ at f3
  change f 8 = _ at f4
  change f 9 = _ at f5
  change f 10 = _ at f6
  change f 11 = _ at f7
  change f 12 = _ at f8
  change f 13 = _ at f9
  change f 14 = _ at f10
  change f 15 = _ at f11
  simp only [headDsts, List.take_succ_cons, List.take_zero, List.filterMap_cons, List.filterMap_nil, setAll, f0, f1, f2, f3, f4, f5, f6, f7, f8, f9, f10, f11, List.setIfInBounds_toArray, List.set_cons_succ, List.set_cons_zero, List.drop_succ_cons, List.drop_zero]
  clear f0 f1 f2 f3 f4 f5 f6 f7 f8 f9 f10 f11 f
  have HK1:=lh hR
  have hp1:=hR.heap HP0.out (by simp)
  have HP01:=lh hp1
  have HP1:=lh (HCELL.out _ _ hp1)
  clear hR hp1
  go_wp2
  refine wp_region_facts' 14 (Kept []) (dpp2F p y c Tf f) mixed (by kernel_rfl) (Kept.refl _ _).drew (fun _ _ _ h k => h.trans k (fun x hx => .inl hx)) dpp2F_stable ?_ ?_
  ·refine ⟨?_, ?_, ?_, ?_, ?_, ?_, ?_, ?_, ?_, ?_, ?_, ?_, ?_, ?_, trivial⟩
   all_goals go_light
   all_goals intro a W hR hs hd
   all_goals have p0 : a.tmps[0]? = some (.pointer (some ⟨p, 0, none⟩)):=hs.2.2 0 (by decide)
   all_goals have hRr : Kept [] W W:=Kept.refl _ _
   all_goals have m_p_2 : W.cell? ⟨p, 2, none⟩ = some (.slice (some ⟨y, 0, none⟩) 1 c):=hR.cell (HP1.out.1) (by simp)
   ·refine ov W (.pointer (some ⟨p, 0, none⟩)) ?_ (.mk hRr rfl rfl)
    simp [go_sem, p0]
   ·refine ov W (.pointer (some ⟨p, 0, none⟩)) ?_ (.mk hRr rfl rfl)
    simp [go_sem, p0]
   ·have q1 : _ = _:=hd.1 rfl
    refine ov W (.pointer (some ⟨p, 0, none⟩)) ?_ (.mk hRr rfl rfl)
    simp [go_sem, q1]
   ·have q2 : _ = _:=hd.1 rfl
    refine ov W (.pointer (some ⟨p, 2, none⟩)) ?_ (.mk hRr rfl rfl)
    simp [go_sem, q2]
   ·have q3 : _ = _:=hd.1 rfl
    refine ov W (.slice (some ⟨y, 0, none⟩) 1 c) ?_ (.mk hRr rfl rfl)
    simp [go_sem, q3, m_p_2]
   ·refine ov W (.pointer (some ⟨p, 0, none⟩)) ?_ (.mk hRr rfl rfl)
    simp [go_sem, p0]
   ·have q5 : _ = _:=hd.1 rfl
    refine ov W (.pointer (some ⟨p, 0, none⟩)) ?_ (.mk hRr rfl rfl)
    simp [go_sem, q5]
   ·have q6 : _ = _:=hd.1 rfl
    refine ov W (.pointer (some ⟨p, 2, none⟩)) ?_ (.mk hRr rfl rfl)
    simp [go_sem, q6]
   ·have q7 : _ = _:=hd.1 rfl
    refine ov W (.slice (some ⟨y, 0, none⟩) 1 c) ?_ (.mk hRr rfl rfl)
    simp [go_sem, q7, m_p_2]
   ·have q8 : _ = _:=hd.1 rfl
    refine ov W (.int .i64 1) ?_ (.mk hRr rfl rfl)
    simp [go_sem, q8]
   ·have q9 : _ = _:=hd.1 rfl
    refine ov W (.int .i64 0) ?_ (.mk hRr rfl rfl)
    simp [go_sem, q9]
    rfl
   ·have q4 : _ = _:=hd.1 rfl
    have q10 : _ = _:=hd.2.1 rfl
    refine ov W (.slice (some ⟨y, 0, none⟩) 0 c) ?_ (.mk hRr rfl rfl)
    simp [go_sem, q4, q10, cut149]
   ·have q0 : _ = _:=hd.1 rfl
    refine ov W (.pointer (some ⟨p, 0, none⟩)) ?_ (.mk hRr rfl rfl)
    simp [go_sem, q0]
   ·have q12 : _ = _:=hd.1 rfl
    refine ov W (.pointer (some ⟨p, 2, none⟩)) ?_ (.mk hRr rfl rfl)
    simp [go_sem, q12]
  ·intro f W2 hR hf
   obtain ⟨f0, f1, f2, f3, f4, f5, f6, f7, f8, f9, f10, f11, f12, f13, -⟩:=hf
   change f 16 = _ at f0
   change f 17 = _ at f1
   change f 18 = _ at f2
   change f 19 = _ at f3
   change f 20 = _ at f4
   change f 21 = _ at f5
   change f 22 = _ at f6
   change f 23 = _ at f7
   change f 24 = _ at f8
   change f 25 = _ at f9
   change f 26 = _ at f10
   change f 27 = _ at f11
   change f 28 = _ at f12
   change f 29 = _ at f13
   simp only [headDsts, List.take_succ_cons, List.take_zero, List.filterMap_cons, List.filterMap_nil, setAll, f0, f1, f2, f3, f4, f5, f6, f7, f8, f9, f10, f11, f12, f13, List.setIfInBounds_toArray, List.set_cons_succ, List.set_cons_zero, List.drop_succ_cons, List.drop_zero]
   clear f0 f1 f2 f3 f4 f5 f6 f7 f8 f9 f10 f11 f12 f13 f
   have HK2:=lh (HK1.out.trans0 hR)
   have hp2:=hR.heap HP01.out (by simp)
   have h2f:=(HCELL.out _ _ hp2).2.2 2
   have h2c:=(HCELL.out _ _ hp2).1
   have HP2:=lh hp2
   clear hR hp2
   go_wp2
   obtain ⟨W3, hW3⟩ : ∃ W3, W2.setCell ⟨p, 2, none⟩ (.slice (some ⟨y, 0, none⟩) 0 c) = W3:=⟨_, rfl⟩
   have hp3 : W3.heap[p]? = some (.cells #[.slice A N cc, .int .i64 k, .slice (some ⟨y, 0, none⟩) 0 c] 151 (0, 0)):=by
    rw [← hW3]
    exact heap_setCell_same W2 p 2 _ _ _ HP2.out
   have hk3 : Kept [p] w W3:=by
    rw [← hW3]
    exact (HK2.out.mono (by simp)).trans (kept_set p 2 _ _) (fun x hx => .inl hx)
   rw [hW3]
   have HK3:=lh hk3
   have HP03:=lh hp3
   have HP3:=lh (HCELL.out _ _ hp3)
   clear hW3 hp3 hk3 h2f h2c
   refine wp_region_facts' 12 (Kept []) (dpp3F p A N cc k Tf f) mixed (by kernel_rfl) (Kept.refl _ _).drew (fun _ _ _ h k => h.trans k (fun x hx => .inl hx)) dpp3F_stable ?_ ?_
   ·refine ⟨?_, ?_, ?_, ?_, ?_, ?_, ?_, ?_, ?_, ?_, ?_, ?_, trivial⟩
    all_goals go_light
    all_goals intro a W hR hs hd
    all_goals have p0 : a.tmps[0]? = some (.pointer (some ⟨p, 0, none⟩)):=hs.2.2 0 (by decide)
    all_goals have p3 : a.tmps[3]? = some (.iface Tf f):=hs.2.2 3 (by decide)
    all_goals have hRr : Kept [] W W:=Kept.refl _ _
    all_goals have m_p_1 : W.cell? ⟨p, 1, none⟩ = some (.int .i64 k):=hR.cell (HP3.out.2.1.1) (by simp)
    all_goals have m_p_0 : W.cell? ⟨p, 0, none⟩ = some (.slice A N cc):=hR.cell (HP3.out.2.1.2) (by simp)
    all_goals have hna_check:=HNA.out W (HK3.out.trans (hR.mono (T:=[p]) (by simp)) (fun x hx => .inl hx))
    ·refine ov W (.iface Tf f) ?_ (.mk hRr rfl rfl)
     simp [go_sem, p3]
    ·refine ov W (.pointer (some ⟨p, 0, none⟩)) ?_ (.mk hRr rfl rfl)
     simp [go_sem, p0]
    ·have q1 : _ = _:=hd.1 rfl
     refine ov W (.pointer (some ⟨p, 0, none⟩)) ?_ (.mk hRr rfl rfl)
     simp [go_sem, q1]
    ·have q2 : _ = _:=hd.1 rfl
     refine ov W (.pointer (some ⟨p, 1, none⟩)) ?_ (.mk hRr rfl rfl)
     simp [go_sem, q2]
    ·have q3 : _ = _:=hd.1 rfl
     refine ov W (.int .i64 k) ?_ (.mk hRr rfl rfl)
     simp [go_sem, q3, m_p_1]
    ·refine ov W (.pointer (some ⟨p, 0, none⟩)) ?_ (.mk hRr rfl rfl)
     simp [go_sem, p0]
    ·have q5 : _ = _:=hd.1 rfl
     refine ov W (.pointer (some ⟨p, 0, none⟩)) ?_ (.mk hRr rfl rfl)
     simp [go_sem, q5]
    ·have q6 : _ = _:=hd.1 rfl
     refine ov W (.pointer (some ⟨p, 0, none⟩)) ?_ (.mk hRr rfl rfl)
     simp [go_sem, q6]
    ·have q7 : _ = _:=hd.1 rfl
     refine ov W (.slice A N cc) ?_ (.mk hRr rfl rfl)
     simp [go_sem, q7, m_p_0]
    ·have q0 : _ = _:=hd.1 rfl
     refine ov W (.func (.method "pub-kestrel/pub/sarama.check") #[.iface Tf f] #[]) ?_ (.mk hRr rfl rfl)
     simp [go_sem, q0]
    ·have q9 : _ = _:=hd.1 rfl
     refine ov W (.func (.method "pub-kestrel/pub/sarama.check") #[.iface Tf f] #[]) ?_ (.mk hRr rfl rfl)
     simp [go_sem, q9, hna_check]
    ·have q0 : _ = _:=hd.1 rfl
     have q9 : _ = _:=hd.2.1 rfl
     have q10 : _ = _:=hd.2.2.1 rfl
     refine ov W (.iface Tf f) ?_ (.mk hRr rfl rfl)
     simp [go_sem, q0]
   ·intro f W4 hR hf
    obtain ⟨f0, f1, f2, f3, f4, f5, f6, f7, f8, f9, f10, f11, -⟩:=hf
    change f 30 = _ at f0
    change f 31 = _ at f1
    change f 32 = _ at f2
    change f 33 = _ at f3
    change f 34 = _ at f4
    change f 35 = _ at f5
    change f 36 = _ at f6
    change f 37 = _ at f7
    change f 38 = _ at f8
    change f 39 = _ at f9
    change f 40 = _ at f10
    change f 41 = _ at f11
    simp only [headDsts, List.take_succ_cons, List.take_zero, List.filterMap_cons, List.filterMap_nil, setAll, f0, f1, f2, f3, f4, f5, f6, f7, f8, f9, f10, f11, List.setIfInBounds_toArray, List.set_cons_succ, List.set_cons_zero, List.drop_succ_cons, List.drop_zero]
    clear f0 f1 f2 f3 f4 f5 f6 f7 f8 f9 f10 f11 f
    have HK4:=lh (HK3.out.trans (hR.mono (T:=[p]) (by simp)) (fun x hx => .inl hx))
    have HP4:=lh (hR.heap HP03.out (by simp))
    clear hR
    go_wp2_with (refine wl_invoke rfl _ _ _ _ rfl Tf f rfl "check" rfl [.int .i64 k, .slice A N cc] (by simp [go_sem]) _ (HRUN.out _ HK4.out) ?_; rintro e w5 ⟨rfl, hq, hk5⟩; refine ⟨_, rfl, ?_⟩; have HQ:=lh hq; have HK5:=lh hk5; clear hq hk5)
    go_ret
    exact ⟨rfl, HQ.out, _, HP4.out, HK4.out, HK5.out⟩
end Go.Proofs.YtmpjikihnmagoaaGreatDoor
