/-
  A length's field is pushed on an encoder (200, 238), whatever the field is. Conditions: the field's own methods; an empty stack.
-/
import Derived.Test.YtmpjikihnmagoaaGreatDoorZT53
import Derived.Stop.Asserts
set_option maxRecDepth 100000
set_option maxHeartbeats 3200000
namespace Go.Proofs.YtmpjikihnmagoaaGreatDoor
open Go.RowKit
theorem info336 : (Tryz.prog.info? 336).map (fun i => (i.zero, i.size, i.bytes)) = some (some .nilIface, 1, 16):=by kernel_rfl
theorem info323 : (Tryz.prog.info? 323).map (fun i => (i.zero, i.size, i.bytes)) = some (some .nilIface, 1, 16):=by kernel_rfl
theorem own_one {w : World} {base : Nat} {e : TypeId} {v x : Value} (h : w.ownsRow base e 1 v (0 + 1) ([] ++ [x])) : ∃ y c, v = .slice (some ⟨y, 0, none⟩) 1 c ∧ SlIs w 1 (some ⟨y, 0, none⟩) 1 [x] ∧ base ≤ y ∧ y < w.heap.size:=by
 rcases h.2 with ⟨rfl, h0⟩ | ⟨g, cap, cur, rfl, hb, hg, _⟩
 ·simp at h0
 ·obtain ⟨A, c, he, hsl, hge⟩:=own_sl h
  cases he
  exact ⟨g, cap, rfl, hsl, (hge _ rfl).1, (hge _ rfl).2⟩
/-- What pushing leaves. -/
def PushR (cs : Value → Value → Array Value) (T : TypeId) (p g m : Nat) (x : Value) (Fa : World → Prop) (w : World) (w' : World) : Prop:=∃ y c, w'.heap[p]? = some (.cells (cs (.slice (some ⟨y, 0, none⟩) 1 c) (.int .i64 m)) T (0, 0)) ∧ SlIs w' 1 (some ⟨y, 0, none⟩) 1 [x] ∧ w.heap.size ≤ y ∧ y < w'.heap.size ∧ Fa w' ∧ Kept [g, p] w w'
def prep_push0F (p : Nat) (Tf : TypeId) (f : Value) (ix : Nat) (v : Value) (_ : World) : Prop :=
 match ix with
 | 0 => v = .iface Tf f
 | 1 => v = .pointer (some ⟨p, 0, none⟩)
 | 2 => v = .pointer (some ⟨p, 0, none⟩)
 | 3 => v = .pointer (some ⟨p, 1, none⟩)
 | 4 => v = .int .i64 0
 | 5 => v = .func (.method "pub-kestrel/pub/sarama.saveOffset") #[.iface Tf f] #[]
 | 6 => v = .func (.method "pub-kestrel/pub/sarama.saveOffset") #[.iface Tf f] #[]
 | 7 => v = .iface Tf f
 | _ => True
theorem prep_push0F_stable {p Tf f} : ∀ ix v w w', prep_push0F p Tf f ix v w → Kept [] w w' → prep_push0F p Tf f ix v w':=by
 intro ix v w w' h k
 unfold prep_push0F at h ⊢
 split at h <;> (first | (exact h))
def prep_push1F (p : Nat) (Tf : TypeId) (f : Value) (m : Nat) (ix : Nat) (v : Value) (_ : World) : Prop :=
 match ix with
 | 0 => v = .pointer (some ⟨p, 0, none⟩)
 | 1 => v = .pointer (some ⟨p, 0, none⟩)
 | 2 => v = .pointer (some ⟨p, 1, none⟩)
 | 3 => v = .int .i64 0
 | 4 => v = .iface Tf f
 | 5 => v = .int .i64 m
 | 6 => v = .int .i64 m
 | 7 => v = .pointer (some ⟨p, 0, none⟩)
 | 8 => v = .pointer (some ⟨p, 1, none⟩)
 | _ => True
theorem prep_push1F_stable {p Tf f m} : ∀ ix v w w', prep_push1F p Tf f m ix v w → Kept [] w w' → prep_push1F p Tf f m ix v w':=by
 intro ix v w w' h k
 unfold prep_push1F at h ⊢
 split at h <;> (first | (exact h))
theorem prep_push (p : Nat) (Tf : TypeId) (f : Value) (Fa : World → Prop) (g m : Nat) (w : World) (hp : w.heap[p]? = some (.cells #[.slice none 0 0, .int .i64 0] 163 (0, 0))) (hgp : g ≠ p) (hm : m ≤ 100) (hsave : ∀ W, Kept [] w W → Inv Tf f "saveOffset" [.int .i64 0] W (fun e w' => e = .returned (.tuple #[]) ∧ Fa w' ∧ Kept [g] W w')) (hres : ∀ W, Fa W → Inv Tf f "reserveLength" [] W (fun e w' => e = .returned (.int .i64 m) ∧ Kept [] W w')) (hFa : ∀ W W', Fa W → Kept [p] W W' → Fa W') : Calls Tryz.prog 200 #[.pointer (some ⟨p, 0, none⟩), .iface Tf f] w (fun e w' => e = .returned (.tuple #[]) ∧ PushR (fun st n => #[st, n]) 163 p g m (.iface Tf f) Fa w w'):=by
 obtain ⟨st0, hst⟩ : ∃ st0, (.slice none 0 0 : Value) = st0:=⟨_, rfl⟩
 rw [hst] at hp
 have HST:=lh hst
 clear hst
 have hmw : IntKind.i64.wrap (m : Int) = (m : Int):=IntWalk.i64_in _ (by omega)
 have hcell : ∀ (W : World) (st n : Value), W.heap[p]? = some (.cells #[st, n] 163 (0, 0)) → W.cell? ⟨p, 1, none⟩ = some n ∧ W.cell? ⟨p, 0, none⟩ = some st ∧ ∀ o, W.frozen? ⟨p, o, none⟩ = false:=fun W st n h => by simp [World.cell?, World.frozen?, h]
 have HCELL:=lh hcell
 have HP0:=lh hp
 have HP:=lh (hcell _ _ _ hp)
 have HGP:=lh hgp
 have HNA : Hid (∀ W, Kept [] w W → (nilAhead 483 Tf f "pub-kestrel/pub/sarama.saveOffset").run Tryz.prog W = .ok (some false) W):=lh fun W hk => by
  obtain ⟨_, _, _, _, h9, _⟩:=hsave W hk
  exact h9
 have HSAVE:=lh hsave
 have HRES:=lh hres
 have HFA:=lh hFa
 clear hp hgp hsave hres hFa hcell hm
 go_enter Tryz.func200, Tryz.ntmps200
 go_wp2
 refine wp_region_facts' 8 (Kept []) (prep_push0F p Tf f) mixed (by kernel_rfl) (Kept.refl _ _).drew (fun _ _ _ h k => h.trans k (fun x hx => .inl hx)) prep_push0F_stable ?_ ?_
 ·refine ⟨?_, ?_, ?_, ?_, ?_, ?_, ?_, ?_, trivial⟩
  all_goals go_light
  all_goals intro a W hR hs hd
  all_goals have p0 : a.tmps[0]? = some (.pointer (some ⟨p, 0, none⟩)):=hs.2.2 0 (by decide)
  all_goals have p1 : a.tmps[1]? = some (.iface Tf f):=hs.2.2 1 (by decide)
  all_goals have hRr : Kept [] W W:=Kept.refl _ _
  all_goals have m_p_1 : W.cell? ⟨p, 1, none⟩ = some (.int .i64 0):=hR.cell (HP.out.1) (by simp)
  all_goals have hna_saveOffset:=HNA.out W hR
  ·refine ov W (.iface Tf f) ?_ (.mk hRr rfl rfl)
   simp [go_sem, p1]
  ·refine ov W (.pointer (some ⟨p, 0, none⟩)) ?_ (.mk hRr rfl rfl)
   simp [go_sem, p0]
  ·have q1 : _ = _:=hd.1 rfl
   refine ov W (.pointer (some ⟨p, 0, none⟩)) ?_ (.mk hRr rfl rfl)
   simp [go_sem, q1]
  ·have q2 : _ = _:=hd.1 rfl
   refine ov W (.pointer (some ⟨p, 1, none⟩)) ?_ (.mk hRr rfl rfl)
   simp [go_sem, q2]
  ·have q3 : _ = _:=hd.1 rfl
   refine ov W (.int .i64 0) ?_ (.mk hRr rfl rfl)
   simp [go_sem, q3, m_p_1]
  ·have q0 : _ = _:=hd.1 rfl
   refine ov W (.func (.method "pub-kestrel/pub/sarama.saveOffset") #[.iface Tf f] #[]) ?_ (.mk hRr rfl rfl)
   simp [go_sem, q0]
  ·have q5 : _ = _:=hd.1 rfl
   refine ov W (.func (.method "pub-kestrel/pub/sarama.saveOffset") #[.iface Tf f] #[]) ?_ (.mk hRr rfl rfl)
   simp [go_sem, q5, hna_saveOffset]
  ·have q0 : _ = _:=hd.1 rfl
   have q5 : _ = _:=hd.2.1 rfl
   have q6 : _ = _:=hd.2.2.1 rfl
   refine ov W (.iface Tf f) ?_ (.mk hRr rfl rfl)
   simp [go_sem, q0]
 ·intro f W1 hR hf
  obtain ⟨f0, f1, f2, f3, f4, f5, f6, f7, -⟩:=hf
  change f 4 = _ at f0
  change f 5 = _ at f1
  change f 6 = _ at f2
  change f 7 = _ at f3
  change f 8 = _ at f4
  change f 9 = _ at f5
  change f 10 = _ at f6
  change f 11 = _ at f7
  simp only [headDsts, List.take_succ_cons, List.take_zero, List.filterMap_cons, List.filterMap_nil, setAll, f0, f1, f2, f3, f4, f5, f6, f7, List.setIfInBounds_toArray, List.set_cons_succ, List.set_cons_zero, List.drop_succ_cons, List.drop_zero]
  clear f0 f1 f2 f3 f4 f5 f6 f7 f
  have HR:=lh hR
  clear hR
  go_wp2_with (refine wl_invoke rfl _ _ _ _ rfl Tf f rfl "saveOffset" rfl [.int .i64 0] (by simp [go_sem]) _ (HSAVE.out _ HR.out) ?_; rintro e w2 ⟨rfl, ha, hk2⟩; refine ⟨_, rfl, ?_⟩; have HA2:=lh ha; have HK2:=lh (HR.out.mono (T:=[g]) (by simp) |>.trans hk2 (fun x hx => .inl hx)); have hp2:=(HK2.out.heap HP0.out (by simpa using HGP.out.symm)); have HP02:=lh hp2; have HP2:=lh (HCELL.out _ _ _ hp2); clear ha hk2 hp2)
  refine wp_region_facts' 9 (Kept []) (prep_push1F p Tf f m) mixed (by kernel_rfl) (Kept.refl _ _).drew (fun _ _ _ h k => h.trans k (fun x hx => .inl hx)) prep_push1F_stable ?_ ?_
  ·refine ⟨?_, ?_, ?_, ?_, ?_, ?_, ?_, ?_, ?_, trivial⟩
   all_goals go_light
   all_goals intro a W hR hs hd
   all_goals have p0 : a.tmps[0]? = some (.pointer (some ⟨p, 0, none⟩)):=hs.2.2 0 (by decide)
   all_goals have p1 : a.tmps[1]? = some (.iface Tf f):=hs.2.2 1 (by decide)
   all_goals have hRr : Kept [] W W:=Kept.refl _ _
   all_goals have m_p_1 : W.cell? ⟨p, 1, none⟩ = some (.int .i64 0):=hR.cell (HP2.out.1) (by simp)
   ·refine ov W (.pointer (some ⟨p, 0, none⟩)) ?_ (.mk hRr rfl rfl)
    simp [go_sem, p0]
   ·have q0 : _ = _:=hd.1 rfl
    refine ov W (.pointer (some ⟨p, 0, none⟩)) ?_ (.mk hRr rfl rfl)
    simp [go_sem, q0]
   ·have q1 : _ = _:=hd.1 rfl
    refine ov W (.pointer (some ⟨p, 1, none⟩)) ?_ (.mk hRr rfl rfl)
    simp [go_sem, q1]
   ·have q2 : _ = _:=hd.1 rfl
    refine ov W (.int .i64 0) ?_ (.mk hRr rfl rfl)
    simp [go_sem, q2, m_p_1]
   ·refine ov W (.iface Tf f) ?_ (.mk hRr rfl rfl)
    simp [go_sem, p1]
   ·have q4 : _ = _:=hd.1 rfl
    refine ow_invoke _ _ _ _ rfl Tf f (by simp [go_sem, q4]) "reserveLength" rfl [] (by simp) _ (HRES.out W (HFA.out _ _ HA2.out (hR.mono (by simp)))) ?_
    rintro e w' ⟨rfl, hk⟩
    exact ⟨_, rfl, .mk hk rfl rfl⟩
   ·have q3 : _ = _:=hd.1 rfl
    have q5 : _ = _:=hd.2.1 rfl
    refine ov W (.int .i64 m) ?_ (.mk hRr rfl rfl)
    simp [go_sem, q3, q5, hmw]
   ·have q0 : _ = _:=hd.1 rfl
    refine ov W (.pointer (some ⟨p, 0, none⟩)) ?_ (.mk hRr rfl rfl)
    simp [go_sem, q0]
   ·have q7 : _ = _:=hd.1 rfl
    refine ov W (.pointer (some ⟨p, 1, none⟩)) ?_ (.mk hRr rfl rfl)
    simp [go_sem, q7]
  ·intro f W2 hR hf
   obtain ⟨f0, f1, f2, f3, f4, f5, f6, f7, f8, -⟩:=hf
   change f 13 = _ at f0
   change f 14 = _ at f1
   change f 15 = _ at f2
   change f 16 = _ at f3
   change f 17 = _ at f4
   change f 18 = _ at f5
   change f 19 = _ at f6
   change f 20 = _ at f7
   change f 21 = _ at f8
   simp only [headDsts, List.take_succ_cons, List.take_zero, List.filterMap_cons, List.filterMap_nil, setAll, f0, f1, f2, f3, f4, f5, f6, f7, f8, List.drop_succ_cons, List.drop_zero]
   clear f0 f1 f2 f3 f4 f5 f6 f7 f8 f
   have HR2:=lh hR
   have hp3:=hR.heap HP02.out (by simp)
   obtain ⟨h31, h32, h33⟩:=HCELL.out _ _ _ hp3
   have h3f:=h33 1
   have h3g:=h33 0
   have HP3:=lh hp3
   clear hR hp3 h33
   go_wp2_with (at_builtin; refine wl_append rfl _ _ 161 rfl w.heap.size 336 Tryz.underlying161 info336 rfl (by decide) st0 0 [] rfl (by rw [← HST.out]; exact World.ownsRow_nil _ _ _ _) (some ⟨(W2.setCell ⟨p, 1, none⟩ (.int .i64 m)).heap.size, 0, none⟩) 1 1 [.iface Tf f] (by simp [go_sem]) (one_sl2 _ _ _ rfl) (by simp [Value.oneCell']) (by omega) (by omega) (by have e1:=HK2.out.size; have e2:=HR2.out.size; have e3:=(kept_set p 1 (.int .i64 m) W2).size; rw [alloc_size]; omega) ?_; intro v4 w4 hown4 hk4 hat4; clear hat4; have hk4' : Kept [] ((W2.setCell ⟨p, 1, none⟩ (.int .i64 m)).alloc (.cells #[.iface Tf f] 336)) w4:=(by rw [← HST.out] at hk4; exact hk4); obtain ⟨y, c, rfl, hsl4, hy1, hy2⟩:=own_one hown4; have hp4 : w4.heap[p]? = some (.cells #[st0, .int .i64 m] 163 (0, 0)):=((((Kept.refl [] _).alloc _).trans0 hk4').heap (heap_setCell_same W2 p 1 _ _ _ HP3.out) (by simp)); obtain ⟨h41, h42, h43⟩:=HCELL.out _ _ _ hp4; have h4f:=h43 0; have HP4:=lh hp4; have HSL4:=lh hsl4; have HY1:=lh hy1; have HY2:=lh hy2; have HK4:=lh (((Kept.refl [] (W2.setCell ⟨p, 1, none⟩ (.int .i64 m))).alloc _).trans0 hk4'); clear hown4 hk4 hk4' hsl4 hy1 hy2 hp4 h43)
   have h5:=heap_setCell_same w4 p 0 _ _ (.slice (some ⟨y, 0, none⟩) 1 c) HP4.out
   have hyp : y ≠ p:=fun e => by
    have e0:=(Array.getElem?_eq_some_iff.1 HP0.out).1
    have e1:=HY1.out
    omega
   have hk24 : Kept [p] W2 w4:=(kept_set p 1 _ W2).trans (HK4.out.mono (by simp)) (fun x hx => .inl hx)
   have hk25 : Kept [p] w2 (w4.setCell ⟨p, 0, none⟩ (.slice (some ⟨y, 0, none⟩) 1 c)):=((HR2.out.mono (by simp)).trans hk24 (fun x hx => .inl hx)).trans (kept_set p 0 _ _) (fun x hx => .inl hx)
   refine bodyPost_end (results_none rfl _ _ _) rfl ⟨rfl, y, c, h5, HSL4.out.kept (kept_set p 0 _ _) (fun a ha => by cases ha; simpa using hyp), HY1.out, (by have e2:=(kept_set p 0 (.slice (some ⟨y, 0, none⟩) 1 c) w4).size; have e1:=HY2.out; omega), HFA.out _ _ HA2.out hk25, (HK2.out.mono (by simp)).trans (hk25.mono (by simp)) (fun x hx => .inl hx)⟩
def real_push0F (p : Nat) (Tf : TypeId) (f : Value) (ix : Nat) (v : Value) (_ : World) : Prop :=
 match ix with
 | 0 => v = .iface Tf f
 | 1 => v = .pointer (some ⟨p, 0, none⟩)
 | 2 => v = .pointer (some ⟨p, 0, none⟩)
 | 3 => v = .pointer (some ⟨p, 1, none⟩)
 | 4 => v = .int .i64 0
 | 5 => v = .func (.method "pub-kestrel/pub/sarama.saveOffset") #[.iface Tf f] #[]
 | 6 => v = .func (.method "pub-kestrel/pub/sarama.saveOffset") #[.iface Tf f] #[]
 | 7 => v = .iface Tf f
 | _ => True
theorem real_push0F_stable {p Tf f} : ∀ ix v w w', real_push0F p Tf f ix v w → Kept [] w w' → real_push0F p Tf f ix v w':=by
 intro ix v w w' h k
 unfold real_push0F at h ⊢
 split at h <;> (first | (exact h))
def real_push1F (p : Nat) (Tf : TypeId) (f : Value) (m : Nat) (ix : Nat) (v : Value) (_ : World) : Prop :=
 match ix with
 | 0 => v = .pointer (some ⟨p, 0, none⟩)
 | 1 => v = .pointer (some ⟨p, 0, none⟩)
 | 2 => v = .pointer (some ⟨p, 1, none⟩)
 | 3 => v = .int .i64 0
 | 4 => v = .iface Tf f
 | 5 => v = .int .i64 m
 | 6 => v = .int .i64 m
 | 7 => v = .pointer (some ⟨p, 0, none⟩)
 | 8 => v = .pointer (some ⟨p, 1, none⟩)
 | _ => True
theorem real_push1F_stable {p Tf f m} : ∀ ix v w w', real_push1F p Tf f m ix v w → Kept [] w w' → real_push1F p Tf f m ix v w':=by
 intro ix v w w' h k
 unfold real_push1F at h ⊢
 split at h <;> (first | (exact h))
theorem real_push (p : Nat) (rv : Value) (Tf : TypeId) (f : Value) (Fa : World → Prop) (g m : Nat) (w : World) (hp : w.heap[p]? = some (.cells #[rv, .int .i64 0, .slice none 0 0] 174 (0, 0))) (hgp : g ≠ p) (hm : m ≤ 100) (hsave : ∀ W, Kept [] w W → Inv Tf f "saveOffset" [.int .i64 0] W (fun e w' => e = .returned (.tuple #[]) ∧ Fa w' ∧ Kept [g] W w')) (hres : ∀ W, Fa W → Inv Tf f "reserveLength" [] W (fun e w' => e = .returned (.int .i64 m) ∧ Kept [] W w')) (hFa : ∀ W W', Fa W → Kept [p] W W' → Fa W') : Calls Tryz.prog 238 #[.pointer (some ⟨p, 0, none⟩), .iface Tf f] w (fun e w' => e = .returned (.tuple #[]) ∧ PushR (fun st n => #[rv, n, st]) 174 p g m (.iface Tf f) Fa w w'):=by
 obtain ⟨st0, hst⟩ : ∃ st0, (.slice none 0 0 : Value) = st0:=⟨_, rfl⟩
 rw [hst] at hp
 have HST:=lh hst
 clear hst
 have hmw : IntKind.i64.wrap (m : Int) = (m : Int):=IntWalk.i64_in _ (by omega)
 have hcell : ∀ (W : World) (st n : Value), W.heap[p]? = some (.cells #[rv, n, st] 174 (0, 0)) → W.cell? ⟨p, 1, none⟩ = some n ∧ W.cell? ⟨p, 2, none⟩ = some st ∧ ∀ o, W.frozen? ⟨p, o, none⟩ = false:=fun W st n h => by simp [World.cell?, World.frozen?, h]
 have HCELL:=lh hcell
 have HP0:=lh hp
 have HP:=lh (hcell _ _ _ hp)
 have HGP:=lh hgp
 have HNA : Hid (∀ W, Kept [] w W → (nilAhead 483 Tf f "pub-kestrel/pub/sarama.saveOffset").run Tryz.prog W = .ok (some false) W):=lh fun W hk => by
  obtain ⟨_, _, _, _, h9, _⟩:=hsave W hk
  exact h9
 have HSAVE:=lh hsave
 have HRES:=lh hres
 have HFA:=lh hFa
 clear hp hgp hsave hres hFa hcell hm
 go_enter Tryz.func238, Tryz.ntmps238
 go_wp2
 refine wp_region_facts' 8 (Kept []) (real_push0F p Tf f) mixed (by kernel_rfl) (Kept.refl _ _).drew (fun _ _ _ h k => h.trans k (fun x hx => .inl hx)) real_push0F_stable ?_ ?_
 ·refine ⟨?_, ?_, ?_, ?_, ?_, ?_, ?_, ?_, trivial⟩
  all_goals go_light
  all_goals intro a W hR hs hd
  all_goals have p0 : a.tmps[0]? = some (.pointer (some ⟨p, 0, none⟩)):=hs.2.2 0 (by decide)
  all_goals have p1 : a.tmps[1]? = some (.iface Tf f):=hs.2.2 1 (by decide)
  all_goals have hRr : Kept [] W W:=Kept.refl _ _
  all_goals have m_p_1 : W.cell? ⟨p, 1, none⟩ = some (.int .i64 0):=hR.cell (HP.out.1) (by simp)
  all_goals have hna_saveOffset:=HNA.out W hR
  ·refine ov W (.iface Tf f) ?_ (.mk hRr rfl rfl)
   simp [go_sem, p1]
  ·refine ov W (.pointer (some ⟨p, 0, none⟩)) ?_ (.mk hRr rfl rfl)
   simp [go_sem, p0]
  ·have q1 : _ = _:=hd.1 rfl
   refine ov W (.pointer (some ⟨p, 0, none⟩)) ?_ (.mk hRr rfl rfl)
   simp [go_sem, q1]
  ·have q2 : _ = _:=hd.1 rfl
   refine ov W (.pointer (some ⟨p, 1, none⟩)) ?_ (.mk hRr rfl rfl)
   simp [go_sem, q2]
  ·have q3 : _ = _:=hd.1 rfl
   refine ov W (.int .i64 0) ?_ (.mk hRr rfl rfl)
   simp [go_sem, q3, m_p_1]
  ·have q0 : _ = _:=hd.1 rfl
   refine ov W (.func (.method "pub-kestrel/pub/sarama.saveOffset") #[.iface Tf f] #[]) ?_ (.mk hRr rfl rfl)
   simp [go_sem, q0]
  ·have q5 : _ = _:=hd.1 rfl
   refine ov W (.func (.method "pub-kestrel/pub/sarama.saveOffset") #[.iface Tf f] #[]) ?_ (.mk hRr rfl rfl)
   simp [go_sem, q5, hna_saveOffset]
  ·have q0 : _ = _:=hd.1 rfl
   have q5 : _ = _:=hd.2.1 rfl
   have q6 : _ = _:=hd.2.2.1 rfl
   refine ov W (.iface Tf f) ?_ (.mk hRr rfl rfl)
   simp [go_sem, q0]
 ·intro f W1 hR hf
  obtain ⟨f0, f1, f2, f3, f4, f5, f6, f7, -⟩:=hf
  change f 4 = _ at f0
  change f 5 = _ at f1
  change f 6 = _ at f2
  change f 7 = _ at f3
  change f 8 = _ at f4
  change f 9 = _ at f5
  change f 10 = _ at f6
  change f 11 = _ at f7
  simp only [headDsts, List.take_succ_cons, List.take_zero, List.filterMap_cons, List.filterMap_nil, setAll, f0, f1, f2, f3, f4, f5, f6, f7, List.setIfInBounds_toArray, List.set_cons_succ, List.set_cons_zero, List.drop_succ_cons, List.drop_zero]
  clear f0 f1 f2 f3 f4 f5 f6 f7 f
  have HR:=lh hR
  clear hR
  go_wp2_with (refine wl_invoke rfl _ _ _ _ rfl Tf f rfl "saveOffset" rfl [.int .i64 0] (by simp [go_sem]) _ (HSAVE.out _ HR.out) ?_; rintro e w2 ⟨rfl, ha, hk2⟩; refine ⟨_, rfl, ?_⟩; have HA2:=lh ha; have HK2:=lh (HR.out.mono (T:=[g]) (by simp) |>.trans hk2 (fun x hx => .inl hx)); have hp2:=(HK2.out.heap HP0.out (by simpa using HGP.out.symm)); have HP02:=lh hp2; have HP2:=lh (HCELL.out _ _ _ hp2); clear ha hk2 hp2)
  refine wp_region_facts' 9 (Kept []) (real_push1F p Tf f m) mixed (by kernel_rfl) (Kept.refl _ _).drew (fun _ _ _ h k => h.trans k (fun x hx => .inl hx)) real_push1F_stable ?_ ?_
  ·refine ⟨?_, ?_, ?_, ?_, ?_, ?_, ?_, ?_, ?_, trivial⟩
   all_goals go_light
   all_goals intro a W hR hs hd
   all_goals have p0 : a.tmps[0]? = some (.pointer (some ⟨p, 0, none⟩)):=hs.2.2 0 (by decide)
   all_goals have p1 : a.tmps[1]? = some (.iface Tf f):=hs.2.2 1 (by decide)
   all_goals have hRr : Kept [] W W:=Kept.refl _ _
   all_goals have m_p_1 : W.cell? ⟨p, 1, none⟩ = some (.int .i64 0):=hR.cell (HP2.out.1) (by simp)
   ·refine ov W (.pointer (some ⟨p, 0, none⟩)) ?_ (.mk hRr rfl rfl)
    simp [go_sem, p0]
   ·have q0 : _ = _:=hd.1 rfl
    refine ov W (.pointer (some ⟨p, 0, none⟩)) ?_ (.mk hRr rfl rfl)
    simp [go_sem, q0]
   ·have q1 : _ = _:=hd.1 rfl
    refine ov W (.pointer (some ⟨p, 1, none⟩)) ?_ (.mk hRr rfl rfl)
    simp [go_sem, q1]
   ·have q2 : _ = _:=hd.1 rfl
    refine ov W (.int .i64 0) ?_ (.mk hRr rfl rfl)
    simp [go_sem, q2, m_p_1]
   ·refine ov W (.iface Tf f) ?_ (.mk hRr rfl rfl)
    simp [go_sem, p1]
   ·have q4 : _ = _:=hd.1 rfl
    refine ow_invoke _ _ _ _ rfl Tf f (by simp [go_sem, q4]) "reserveLength" rfl [] (by simp) _ (HRES.out W (HFA.out _ _ HA2.out (hR.mono (by simp)))) ?_
    rintro e w' ⟨rfl, hk⟩
    exact ⟨_, rfl, .mk hk rfl rfl⟩
   ·have q3 : _ = _:=hd.1 rfl
    have q5 : _ = _:=hd.2.1 rfl
    refine ov W (.int .i64 m) ?_ (.mk hRr rfl rfl)
    simp [go_sem, q3, q5, hmw]
   ·have q0 : _ = _:=hd.1 rfl
    refine ov W (.pointer (some ⟨p, 0, none⟩)) ?_ (.mk hRr rfl rfl)
    simp [go_sem, q0]
   ·have q7 : _ = _:=hd.1 rfl
    refine ov W (.pointer (some ⟨p, 1, none⟩)) ?_ (.mk hRr rfl rfl)
    simp [go_sem, q7]
  ·intro f W2 hR hf
   obtain ⟨f0, f1, f2, f3, f4, f5, f6, f7, f8, -⟩:=hf
   change f 13 = _ at f0
   change f 14 = _ at f1
   change f 15 = _ at f2
   change f 16 = _ at f3
   change f 17 = _ at f4
   change f 18 = _ at f5
   change f 19 = _ at f6
   change f 20 = _ at f7
   change f 21 = _ at f8
   simp only [headDsts, List.take_succ_cons, List.take_zero, List.filterMap_cons, List.filterMap_nil, setAll, f0, f1, f2, f3, f4, f5, f6, f7, f8, List.drop_succ_cons, List.drop_zero]
   clear f0 f1 f2 f3 f4 f5 f6 f7 f8 f
   have HR2:=lh hR
   have hp3:=hR.heap HP02.out (by simp)
   obtain ⟨h31, h32, h33⟩:=HCELL.out _ _ _ hp3
   have h3f:=h33 1
   have h3g:=h33 2
   have HP3:=lh hp3
   clear hR hp3 h33
   go_wp2_with (at_builtin; refine wl_append rfl _ _ 161 rfl w.heap.size 336 Tryz.underlying161 info336 rfl (by decide) st0 0 [] rfl (by rw [← HST.out]; exact World.ownsRow_nil _ _ _ _) (some ⟨(W2.setCell ⟨p, 1, none⟩ (.int .i64 m)).heap.size, 0, none⟩) 1 1 [.iface Tf f] (by simp [go_sem]) (one_sl2 _ _ _ rfl) (by simp [Value.oneCell']) (by omega) (by omega) (by have e1:=HK2.out.size; have e2:=HR2.out.size; have e3:=(kept_set p 1 (.int .i64 m) W2).size; rw [alloc_size]; omega) ?_; intro v4 w4 hown4 hk4 hat4; clear hat4; have hk4' : Kept [] ((W2.setCell ⟨p, 1, none⟩ (.int .i64 m)).alloc (.cells #[.iface Tf f] 336)) w4:=(by rw [← HST.out] at hk4; exact hk4); obtain ⟨y, c, rfl, hsl4, hy1, hy2⟩:=own_one hown4; have hp4 : w4.heap[p]? = some (.cells #[rv, .int .i64 m, st0] 174 (0, 0)):=((((Kept.refl [] _).alloc _).trans0 hk4').heap (heap_setCell_same W2 p 1 _ _ _ HP3.out) (by simp)); obtain ⟨h41, h42, h43⟩:=HCELL.out _ _ _ hp4; have h4f:=h43 2; have HP4:=lh hp4; have HSL4:=lh hsl4; have HY1:=lh hy1; have HY2:=lh hy2; have HK4:=lh (((Kept.refl [] (W2.setCell ⟨p, 1, none⟩ (.int .i64 m))).alloc _).trans0 hk4'); clear hown4 hk4 hk4' hsl4 hy1 hy2 hp4 h43)
   have h5:=heap_setCell_same w4 p 2 _ _ (.slice (some ⟨y, 0, none⟩) 1 c) HP4.out
   have hyp : y ≠ p:=fun e => by
    have e0:=(Array.getElem?_eq_some_iff.1 HP0.out).1
    have e1:=HY1.out
    omega
   have hk24 : Kept [p] W2 w4:=(kept_set p 1 _ W2).trans (HK4.out.mono (by simp)) (fun x hx => .inl hx)
   have hk25 : Kept [p] w2 (w4.setCell ⟨p, 2, none⟩ (.slice (some ⟨y, 0, none⟩) 1 c)):=((HR2.out.mono (by simp)).trans hk24 (fun x hx => .inl hx)).trans (kept_set p 2 _ _) (fun x hx => .inl hx)
   refine bodyPost_end (results_none rfl _ _ _) rfl ⟨rfl, y, c, h5, HSL4.out.kept (kept_set p 2 _ _) (fun a ha => by cases ha; simpa using hyp), HY1.out, (by have e2:=(kept_set p 2 (.slice (some ⟨y, 0, none⟩) 1 c) w4).size; have e1:=HY2.out; omega), HFA.out _ _ HA2.out hk25, (HK2.out.mono (by simp)).trans (hk25.mono (by simp)) (fun x hx => .inl hx)⟩
end Go.Proofs.YtmpjikihnmagoaaGreatDoor
/-
 A length's field is popped from a coder (199, 237). Conditions: the field is all that stands on the stack.
-/
namespace Go.Proofs.YtmpjikihnmagoaaGreatDoor
open Go.RowKit
theorem assert_vl (v : Value) (W : World) : (Instr.typeAssert (.iface 312 v) 336 338 true).run Tryz.prog W = .ok (.tuple #[.iface 312 v, .bool true]) W:=by kernel_rfl
theorem assert_crc (v : Value) (W : World) : (Instr.typeAssert (.iface 296 v) 336 338 true).run Tryz.prog W = .ok (.tuple #[.nilIface, .bool false]) W:=run_typeAssert_lacksB Tryz.underlying338 (by kernel_rfl) (by kernel_rfl) v 336 W
theorem elem161 : Tryz.prog.underlying 161 = some (.slice (Tryz.prog.elem 161)):=by rw [Tryz.underlying161]; kernel_rfl
theorem elem149 : Tryz.prog.underlying 149 = some (.slice (Tryz.prog.elem 149)):=by rw [Tryz.underlying149]; kernel_rfl
theorem cut161 (y c : Nat) (W : World) : (Instr.sliceAt 161 (.slice (some ⟨y, 0, none⟩) 1 c) none (some (.int .i64 0)) none).run Tryz.prog W = .ok (.slice (some ⟨y, 0, none⟩) 0 c) W:=by
 have hs : (sizeOf (Tryz.prog.elem 161)).run Tryz.prog W = .ok 1 W:=by kernel_rfl
 rw [run_sliceAt_slice (P:=Tryz.prog) (w:=W) 161 _ _ _ _ elem161, run_slice_h (P:=Tryz.prog) (w:=W) 161 _ _ _ elem161 _ _ (by omega) (by omega), hs]
 simp [Result.andThen, sliced]
 intro _
 rfl
theorem cut149 (y c : Nat) (W : World) : (Instr.sliceAt 149 (.slice (some ⟨y, 0, none⟩) 1 c) none (some (.int .i64 0)) none).run Tryz.prog W = .ok (.slice (some ⟨y, 0, none⟩) 0 c) W:=by
 have hs : (sizeOf (Tryz.prog.elem 149)).run Tryz.prog W = .ok 1 W:=by kernel_rfl
 rw [run_sliceAt_slice (P:=Tryz.prog) (w:=W) 149 _ _ _ _ elem149, run_slice_h (P:=Tryz.prog) (w:=W) 149 _ _ _ elem149 _ _ (by omega) (by omega), hs]
 simp [Result.andThen, sliced]
 intro _
 rfl
def ppv1F (p y c : Nat) (Tf : TypeId) (f : Value) (ix : Nat) (v : Value) (_ : World) : Prop :=
 match ix with
 | 0 => v = .pointer (some ⟨p, 0, none⟩)
 | 1 => v = .pointer (some ⟨p, 0, none⟩)
 | 2 => v = .pointer (some ⟨p, 0, none⟩)
 | 3 => v = .slice (some ⟨y, 0, none⟩) 1 c
 | 4 => v = .pointer (some ⟨p, 0, none⟩)
 | 5 => v = .pointer (some ⟨p, 0, none⟩)
 | 6 => v = .pointer (some ⟨p, 0, none⟩)
 | 7 => v = .slice (some ⟨y, 0, none⟩) 1 c
 | 8 => v = .int .i64 1
 | 9 => v = .int .i64 0
 | 10 => v = .pointer (some ⟨y, 0, none⟩)
 | 11 => v = .iface Tf f
 | _ => True
theorem ppv1F_stable {p y c Tf f} : ∀ ix v w w', ppv1F p y c Tf f ix v w → Kept [] w w' → ppv1F p y c Tf f ix v w':=by
 intro ix v w w' h k
 unfold ppv1F at h ⊢
 split at h <;> (first | (exact h))
def ppv2F (p y c : Nat) (_Tf : TypeId) (_f : Value) (ix : Nat) (v : Value) (_ : World) : Prop :=
 match ix with
 | 0 => v = .pointer (some ⟨p, 0, none⟩)
 | 1 => v = .pointer (some ⟨p, 0, none⟩)
 | 2 => v = .pointer (some ⟨p, 0, none⟩)
 | 3 => v = .pointer (some ⟨p, 0, none⟩)
 | 4 => v = .slice (some ⟨y, 0, none⟩) 1 c
 | 5 => v = .pointer (some ⟨p, 0, none⟩)
 | 6 => v = .pointer (some ⟨p, 0, none⟩)
 | 7 => v = .pointer (some ⟨p, 0, none⟩)
 | 8 => v = .slice (some ⟨y, 0, none⟩) 1 c
 | 9 => v = .int .i64 1
 | 10 => v = .int .i64 0
 | 11 => v = .slice (some ⟨y, 0, none⟩) 0 c
 | 12 => v = .pointer (some ⟨p, 0, none⟩)
 | 13 => v = .pointer (some ⟨p, 0, none⟩)
 | _ => True
theorem ppv2F_stable {p y c Tf f} : ∀ ix v w w', ppv2F p y c Tf f ix v w → Kept [] w w' → ppv2F p y c Tf f ix v w':=by
 intro ix v w w' h k
 unfold ppv2F at h ⊢
 split at h <;> (first | (exact h))
/-- One operation lays down the length. -/
def ajE (g i : Nat) (a b : World) : Prop:=Kept (match i with | 12 => [g] | _ => []) a b
theorem ajE_R {g i : Nat} {a b c : World} (h : Kept [g] a b) (k : ajE g i b c) : Kept [g] a c:=by
 unfold ajE at k
 split at k
 ·exact h.trans k (fun x hx => .inl hx)
 ·exact h.trans0 k
def ajPre (g : Nat) (h at_ td od ky vl : Value) (i : Nat) (w : World) : Prop:=i = 12 → FieldAt g h at_ td od ky vl 0 0 w
theorem ajPre_stable {g : Nat} {h at_ td od ky vl : Value} : ∀ i j w w', i ≠ j → ajPre g h at_ td od ky vl j w → ajE g i w w' → ajPre g h at_ td od ky vl j w':=by
 intro i j w w' hij h hk hj
 subst hj
 unfold ajE at hk
 split at hk
 ·exact absurd rfl hij
 ·exact (h rfl).keep hk (by simp)
def ajF (p g : Nat) (h at_ td od ky vl : Value) (ix : Nat) (v : Value) (W : World) : Prop :=
 match ix with
 | 0 => v = .pointer (some ⟨p, 0, none⟩)
 | 1 => v = .pointer (some ⟨p, 0, none⟩)
 | 2 => v = .pointer (some ⟨p, 1, none⟩)
 | 3 => v = .int .i64 8
 | 4 => v = .iface 312 (.pointer (some ⟨g, 6, none⟩))
 | 5 => v = .pointer (some ⟨p, 0, none⟩)
 | 6 => v = .pointer (some ⟨p, 0, none⟩)
 | 7 => v = .pointer (some ⟨p, 1, none⟩)
 | 8 => v = .int .i64 8
 | 9 => v = .func (.method "pub-kestrel/pub/sarama.adjustLength") #[.iface 312 (.pointer (some ⟨g, 6, none⟩))] #[]
 | 10 => v = .func (.method "pub-kestrel/pub/sarama.adjustLength") #[.iface 312 (.pointer (some ⟨g, 6, none⟩))] #[]
 | 11 => v = .iface 312 (.pointer (some ⟨g, 6, none⟩))
 | 12 => (v = .int .i64 0) ∧ FieldAt g h at_ td od ky vl 0 7 W
 | 13 => v = .int .i64 8
 | 14 => v = .pointer (some ⟨p, 0, none⟩)
 | 15 => v = .pointer (some ⟨p, 1, none⟩)
 | _ => True
theorem ajF_stable {p g h at_ td od ky vl} : ∀ i j v w w', i ≠ j → ajF p g h at_ td od ky vl j v w → ajE g i w w' → ajF p g h at_ td od ky vl j v w':=by
 intro i j v w w' hij h hk
 unfold ajF at h ⊢
 split at h <;> (first | (exact h) | skip)
 unfold ajE at hk
 split at hk
 ·exact absurd rfl hij
 ·exact ⟨h.1, h.2.keep hk (by simp)⟩
theorem prep_pop_vl (p y c g : Nat) (h at_ td od ky vl : Value) (w : World) (hp : w.heap[p]? = some (.cells #[.slice (some ⟨y, 0, none⟩) 1 c, .int .i64 8] 163 (0, 0))) (hy : SlIs w 1 (some ⟨y, 0, none⟩) 1 [.iface 312 (.pointer (some ⟨g, 6, none⟩))]) (hgp : g ≠ p) (hf : FieldAt g h at_ td od ky vl 0 0 w) : Calls Tryz.prog 199 #[.pointer (some ⟨p, 0, none⟩)] w (fun e w' => e = .returned .nilIface ∧ w'.heap[p]? = some (.cells #[.slice (some ⟨y, 0, none⟩) 0 c, .int .i64 8] 163 (0, 0)) ∧ FieldAt g h at_ td od ky vl 0 7 w' ∧ Kept [g, p] w w'):=by
 have hy0 : w.cell? ⟨y, 0, none⟩ = some (.iface 312 (.pointer (some ⟨g, 6, none⟩))):=by
  have h1:=(hy.2.2 (by omega))
  obtain ⟨g1, o1, he, h2⟩:=h1
  cases he
  simpa using h2 0 _ rfl
 have HY:=lh hy0
 have HF:=lh hf
 have HGP:=lh hgp
 have hta:=assert_vl (.pointer (some ⟨g, 6, none⟩))
 have hcell : ∀ (W : World) (st n : Value), W.heap[p]? = some (.cells #[st, n] 163 (0, 0)) → W.cell? ⟨p, 1, none⟩ = some n ∧ W.cell? ⟨p, 0, none⟩ = some st ∧ ∀ o, W.frozen? ⟨p, o, none⟩ = false:=fun W st n h => by simp [World.cell?, World.frozen?, h]
 have HCELL:=lh hcell
 have HP0:=lh hp
 have HP:=lh (hcell _ _ _ hp)
 clear hp hy hy0 hf hgp hcell
 go_enter Tryz.func199, Tryz.ntmps199
 go_wp2
 refine wp_region_facts' 12 (Kept []) (ppv1F p y c 312 (.pointer (some ⟨g, 6, none⟩))) mixed (by kernel_rfl) (Kept.refl _ _).drew (fun _ _ _ h k => h.trans k (fun x hx => .inl hx)) ppv1F_stable ?_ ?_
 ·refine ⟨?_, ?_, ?_, ?_, ?_, ?_, ?_, ?_, ?_, ?_, ?_, ?_, trivial⟩
  all_goals go_light
  all_goals intro a W hR hs hd
  all_goals have p0 : a.tmps[0]? = some (.pointer (some ⟨p, 0, none⟩)):=hs.2.2 0 (by decide)
  all_goals have hRr : Kept [] W W:=Kept.refl _ _
  all_goals have m_p_0 : W.cell? ⟨p, 0, none⟩ = some (.slice (some ⟨y, 0, none⟩) 1 c):=hR.cell (HP.out.2.1) (by simp)
  all_goals have m_y_0 : W.cell? ⟨y, 0, none⟩ = some (.iface 312 (.pointer (some ⟨g, 6, none⟩))):=hR.cell (HY.out) (by simp)
  ·refine ov W (.pointer (some ⟨p, 0, none⟩)) ?_ (.mk hRr rfl rfl)
   simp [go_sem, p0]
  ·have q0 : _ = _:=hd.1 rfl
   refine ov W (.pointer (some ⟨p, 0, none⟩)) ?_ (.mk hRr rfl rfl)
   simp [go_sem, q0]
  ·have q1 : _ = _:=hd.1 rfl
   refine ov W (.pointer (some ⟨p, 0, none⟩)) ?_ (.mk hRr rfl rfl)
   simp [go_sem, q1]
  ·have q2 : _ = _:=hd.1 rfl
   refine ov W (.slice (some ⟨y, 0, none⟩) 1 c) ?_ (.mk hRr rfl rfl)
   simp [go_sem, q2, m_p_0]
  ·refine ov W (.pointer (some ⟨p, 0, none⟩)) ?_ (.mk hRr rfl rfl)
   simp [go_sem, p0]
  ·have q4 : _ = _:=hd.1 rfl
   refine ov W (.pointer (some ⟨p, 0, none⟩)) ?_ (.mk hRr rfl rfl)
   simp [go_sem, q4]
  ·have q5 : _ = _:=hd.1 rfl
   refine ov W (.pointer (some ⟨p, 0, none⟩)) ?_ (.mk hRr rfl rfl)
   simp [go_sem, q5]
  ·have q6 : _ = _:=hd.1 rfl
   refine ov W (.slice (some ⟨y, 0, none⟩) 1 c) ?_ (.mk hRr rfl rfl)
   simp [go_sem, q6, m_p_0]
  ·have q7 : _ = _:=hd.1 rfl
   refine ov W (.int .i64 1) ?_ (.mk hRr rfl rfl)
   simp [go_sem, q7]
  ·have q8 : _ = _:=hd.1 rfl
   refine ov W (.int .i64 0) ?_ (.mk hRr rfl rfl)
   simp [go_sem, q8]
   rfl
  ·have q3 : _ = _:=hd.1 rfl
   have q9 : _ = _:=hd.2.1 rfl
   refine ov W (.pointer (some ⟨y, 0, none⟩)) ?_ (.mk hRr rfl rfl)
   simp [go_sem, q3, q9]
  ·have q10 : _ = _:=hd.1 rfl
   refine ov W (.iface 312 (.pointer (some ⟨g, 6, none⟩))) ?_ (.mk hRr rfl rfl)
   simp [go_sem, q10, m_y_0]
 ·intro f W1 hR hf
  obtain ⟨f0, f1, f2, f3, f4, f5, f6, f7, f8, f9, f10, f11, -⟩:=hf
  change f 6 = _ at f0
  change f 7 = _ at f1
  change f 8 = _ at f2
  change f 9 = _ at f3
  change f 10 = _ at f4
  change f 11 = _ at f5
  change f 12 = _ at f6
  change f 13 = _ at f7
  change f 14 = _ at f8
  change f 15 = _ at f9
  change f 16 = _ at f10
  change f 17 = _ at f11
  simp only [headDsts, List.take_succ_cons, List.take_zero, List.filterMap_cons, List.filterMap_nil, setAll, f0, f1, f2, f3, f4, f5, f6, f7, f8, f9, f10, f11, List.setIfInBounds_toArray, List.set_cons_succ, List.set_cons_zero, List.drop_succ_cons, List.drop_zero]
  clear f0 f1 f2 f3 f4 f5 f6 f7 f8 f9 f10 f11 f
  have HK1:=lh hR
  have hp1:=hR.heap HP0.out (by simp)
  have HP01:=lh hp1
  have HP1:=lh (HCELL.out _ _ _ hp1)
  clear hR hp1
  go_wp2
  refine wp_region_facts' 14 (Kept []) (ppv2F p y c 312 (.pointer (some ⟨g, 6, none⟩))) mixed (by kernel_rfl) (Kept.refl _ _).drew (fun _ _ _ h k => h.trans k (fun x hx => .inl hx)) ppv2F_stable ?_ ?_
  ·refine ⟨?_, ?_, ?_, ?_, ?_, ?_, ?_, ?_, ?_, ?_, ?_, ?_, ?_, ?_, trivial⟩
   all_goals go_light
   all_goals intro a W hR hs hd
   all_goals have p0 : a.tmps[0]? = some (.pointer (some ⟨p, 0, none⟩)):=hs.2.2 0 (by decide)
   all_goals have hRr : Kept [] W W:=Kept.refl _ _
   all_goals have m_p_0 : W.cell? ⟨p, 0, none⟩ = some (.slice (some ⟨y, 0, none⟩) 1 c):=hR.cell (HP1.out.2.1) (by simp)
   ·refine ov W (.pointer (some ⟨p, 0, none⟩)) ?_ (.mk hRr rfl rfl)
    simp [go_sem, p0]
   ·refine ov W (.pointer (some ⟨p, 0, none⟩)) ?_ (.mk hRr rfl rfl)
    simp [go_sem, p0]
   ·have q1 : _ = _:=hd.1 rfl
    refine ov W (.pointer (some ⟨p, 0, none⟩)) ?_ (.mk hRr rfl rfl)
    simp [go_sem, q1]
   ·have q2 : _ = _:=hd.1 rfl
    refine ov W (.pointer (some ⟨p, 0, none⟩)) ?_ (.mk hRr rfl rfl)
    simp [go_sem, q2]
   ·have q3 : _ = _:=hd.1 rfl
    refine ov W (.slice (some ⟨y, 0, none⟩) 1 c) ?_ (.mk hRr rfl rfl)
    simp [go_sem, q3, m_p_0]
   ·refine ov W (.pointer (some ⟨p, 0, none⟩)) ?_ (.mk hRr rfl rfl)
    simp [go_sem, p0]
   ·have q5 : _ = _:=hd.1 rfl
    refine ov W (.pointer (some ⟨p, 0, none⟩)) ?_ (.mk hRr rfl rfl)
    simp [go_sem, q5]
   ·have q6 : _ = _:=hd.1 rfl
    refine ov W (.pointer (some ⟨p, 0, none⟩)) ?_ (.mk hRr rfl rfl)
    simp [go_sem, q6]
   ·have q7 : _ = _:=hd.1 rfl
    refine ov W (.slice (some ⟨y, 0, none⟩) 1 c) ?_ (.mk hRr rfl rfl)
    simp [go_sem, q7, m_p_0]
   ·have q8 : _ = _:=hd.1 rfl
    refine ov W (.int .i64 1) ?_ (.mk hRr rfl rfl)
    simp [go_sem, q8]
   ·have q9 : _ = _:=hd.1 rfl
    refine ov W (.int .i64 0) ?_ (.mk hRr rfl rfl)
    simp [go_sem, q9]
    rfl
   ·have q4 : _ = _:=hd.1 rfl
    have q10 : _ = _:=hd.2.1 rfl
    refine ov W (.slice (some ⟨y, 0, none⟩) 0 c) ?_ (.mk hRr rfl rfl)
    simp [go_sem, q4, q10, cut161]
   ·have q0 : _ = _:=hd.1 rfl
    refine ov W (.pointer (some ⟨p, 0, none⟩)) ?_ (.mk hRr rfl rfl)
    simp [go_sem, q0]
   ·have q12 : _ = _:=hd.1 rfl
    refine ov W (.pointer (some ⟨p, 0, none⟩)) ?_ (.mk hRr rfl rfl)
    simp [go_sem, q12]
  ·intro f W2 hR hf
   obtain ⟨f0, f1, f2, f3, f4, f5, f6, f7, f8, f9, f10, f11, f12, f13, -⟩:=hf
   change f 18 = _ at f0
   change f 19 = _ at f1
   change f 20 = _ at f2
   change f 21 = _ at f3
   change f 22 = _ at f4
   change f 23 = _ at f5
   change f 24 = _ at f6
   change f 25 = _ at f7
   change f 26 = _ at f8
   change f 27 = _ at f9
   change f 28 = _ at f10
   change f 29 = _ at f11
   change f 30 = _ at f12
   change f 31 = _ at f13
   simp only [headDsts, List.take_succ_cons, List.take_zero, List.filterMap_cons, List.filterMap_nil, setAll, f0, f1, f2, f3, f4, f5, f6, f7, f8, f9, f10, f11, f12, f13, List.setIfInBounds_toArray, List.set_cons_succ, List.set_cons_zero, List.drop_succ_cons, List.drop_zero]
   clear f0 f1 f2 f3 f4 f5 f6 f7 f8 f9 f10 f11 f12 f13 f
   have HK2:=lh (HK1.out.trans0 hR)
   have hp2:=hR.heap HP01.out (by simp)
   obtain ⟨h21, h22, h23⟩:=HCELL.out _ _ _ hp2
   have h2f:=h23 0
   have HP2:=lh hp2
   clear hR hp2 h23
   go_wp2
   obtain ⟨W3, hW3⟩ : ∃ W3, W2.setCell ⟨p, 0, none⟩ (.slice (some ⟨y, 0, none⟩) 0 c) = W3:=⟨_, rfl⟩
   have hp3 : W3.heap[p]? = some (.cells #[.slice (some ⟨y, 0, none⟩) 0 c, .int .i64 8] 163 (0, 0)):=by
    rw [← hW3]
    exact heap_setCell_same W2 p 0 _ _ _ HP2.out
   have hk3 : Kept [p] w W3:=by
    rw [← hW3]
    exact (HK2.out.mono (by simp)).trans (kept_set p 0 _ _) (fun x hx => .inl hx)
   rw [hW3]
   have HK3:=lh hk3
   have HP03:=lh hp3
   have HP3:=lh (HCELL.out _ _ _ hp3)
   have HF3:=lh (HF.out.keep hk3 (by simpa using HGP.out))
   clear hW3 hp3 hk3 h21 h22 h2f
   refine wp_region_effs' 16 (Kept [g]) (ajE g) (ajPre g h at_ td od ky vl) (ajF p g h at_ td od ky vl) mixed (by kernel_rfl) (Kept.refl _ _).drew (fun i _ _ _ h k => ajE_R h k) (fun _ _ _ => HF3.out) ajF_stable ajPre_stable ?_ ?_
   ·refine ⟨?_, ?_, ?_, ?_, ?_, ?_, ?_, ?_, ?_, ?_, ?_, ?_, ?_, ?_, ?_, ?_, trivial⟩
    all_goals go_light
    all_goals intro a W hR hpre hs hd
    all_goals have p0 : a.tmps[0]? = some (.pointer (some ⟨p, 0, none⟩)):=hs.2.2 0 (by decide)
    all_goals have p4 : a.tmps[4]? = some (.iface 312 (.pointer (some ⟨g, 6, none⟩))):=hs.2.2 4 (by decide)
    all_goals have hRr : Kept [] W W:=Kept.refl _ _
    all_goals have m_p_1 : W.cell? ⟨p, 1, none⟩ = some (.int .i64 8):=hR.cell HP3.out.1 (by simpa using HGP.out.symm)
    all_goals have hna_adjustLength:=fva_adjustLength ⟨g, 6, none⟩ W
    ·refine ov W (.pointer (some ⟨p, 0, none⟩)) ?_ (.mk hRr rfl rfl)
     simp [go_sem, p0]
    ·have q0 : _ = _:=hd.1 rfl
     refine ov W (.pointer (some ⟨p, 0, none⟩)) ?_ (.mk hRr rfl rfl)
     simp [go_sem, q0]
    ·have q1 : _ = _:=hd.1 rfl
     refine ov W (.pointer (some ⟨p, 1, none⟩)) ?_ (.mk hRr rfl rfl)
     simp [go_sem, q1]
    ·have q2 : _ = _:=hd.1 rfl
     refine ov W (.int .i64 8) ?_ (.mk hRr rfl rfl)
     simp [go_sem, q2, m_p_1]
    ·refine ov W (.iface 312 (.pointer (some ⟨g, 6, none⟩))) ?_ (.mk hRr rfl rfl)
     simp [go_sem, p4]
    ·refine ov W (.pointer (some ⟨p, 0, none⟩)) ?_ (.mk hRr rfl rfl)
     simp [go_sem, p0]
    ·have q5 : _ = _:=hd.1 rfl
     refine ov W (.pointer (some ⟨p, 0, none⟩)) ?_ (.mk hRr rfl rfl)
     simp [go_sem, q5]
    ·have q6 : _ = _:=hd.1 rfl
     refine ov W (.pointer (some ⟨p, 1, none⟩)) ?_ (.mk hRr rfl rfl)
     simp [go_sem, q6]
    ·have q7 : _ = _:=hd.1 rfl
     refine ov W (.int .i64 8) ?_ (.mk hRr rfl rfl)
     simp [go_sem, q7, m_p_1]
    ·have q4 : _ = _:=hd.1 rfl
     refine ov W (.func (.method "pub-kestrel/pub/sarama.adjustLength") #[.iface 312 (.pointer (some ⟨g, 6, none⟩))] #[]) ?_ (.mk hRr rfl rfl)
     simp [go_sem, q4]
    ·have q9 : _ = _:=hd.1 rfl
     refine ov W (.func (.method "pub-kestrel/pub/sarama.adjustLength") #[.iface 312 (.pointer (some ⟨g, 6, none⟩))] #[]) ?_ (.mk hRr rfl rfl)
     simp [go_sem, q9, hna_adjustLength]
    ·have q4 : _ = _:=hd.1 rfl
     have q9 : _ = _:=hd.2.1 rfl
     have q10 : _ = _:=hd.2.2.1 rfl
     refine ov W (.iface 312 (.pointer (some ⟨g, 6, none⟩))) ?_ (.mk hRr rfl rfl)
     simp [go_sem, q4]
    ·have q11 : _ = _:=hd.1 rfl
     have q8 : _ = _:=hd.2.1 rfl
     have hF:=hpre rfl
     refine ow_invoke _ _ _ _ rfl 312 (.pointer (some ⟨g, 6, none⟩)) (by simp [go_sem, q11]) "adjustLength" rfl [.int .i64 8] (by simp [go_sem, q8]) _ ⟨_, _, (by kernel_rfl), fv_adjustLength _ W, fva_adjustLength _ W, vl_adjust g h at_ td od ky vl W hF⟩ ?_
     rintro e w' ⟨rfl, h7, hk⟩
     exact ⟨_, rfl, .mk hk ⟨rfl, h7⟩ rfl⟩
    ·have q3 : _ = _:=hd.1 rfl
     have q12:=hd.2.1 rfl
     obtain ⟨q12, -⟩:=q12
     change _ = _ at q12
     refine ov W (.int .i64 8) ?_ (.mk hRr rfl rfl)
     simp [go_sem, q3, q12]
     rfl
    ·have q0 : _ = _:=hd.1 rfl
     refine ov W (.pointer (some ⟨p, 0, none⟩)) ?_ (.mk hRr rfl rfl)
     simp [go_sem, q0]
    ·have q14 : _ = _:=hd.1 rfl
     refine ov W (.pointer (some ⟨p, 1, none⟩)) ?_ (.mk hRr rfl rfl)
     simp [go_sem, q14]
   ·intro f W4 hR hf
    obtain ⟨f0, f1, f2, f3, f4, f5, f6, f7, f8, f9, f10, f11, f12, f13, f14, f15, -⟩:=hf
    change f 38 = _ at f0
    change f 39 = _ at f1
    change f 40 = _ at f2
    change f 41 = _ at f3
    change f 42 = _ at f4
    change f 43 = _ at f5
    change f 44 = _ at f6
    change f 45 = _ at f7
    change f 46 = _ at f8
    change f 47 = _ at f9
    change f 48 = _ at f10
    change f 49 = _ at f11
    change ((f 50) = .int .i64 0) ∧ FieldAt g h at_ td od ky vl 0 7 W4 at f12
    obtain ⟨x12, g12⟩ : ∃ x, f 50 = x:=⟨_, rfl⟩
    rw [g12] at f12
    change f 51 = _ at f13
    change f 52 = _ at f14
    change f 53 = _ at f15
    simp only [headDsts, List.take_succ_cons, List.take_zero, List.filterMap_cons, List.filterMap_nil, setAll, f0, f1, f2, f3, f4, f5, f6, f7, f8, f9, f10, f11, g12, f13, f14, f15, List.setIfInBounds_toArray, List.set_cons_succ, List.set_cons_zero, List.drop_succ_cons, List.drop_zero]
    clear f0 f1 f2 f3 f4 f5 f6 f7 f8 f9 f10 f11 g12 f13 f14 f15 f
    obtain ⟨rfl, hF4⟩:=f12
    have hp4:=hR.heap HP03.out (by simpa using HGP.out.symm)
    obtain ⟨h41, h42, h43⟩:=HCELL.out _ _ _ hp4
    have h4f:=h43 1
    have HP4:=lh hp4
    have HF4:=lh hF4
    have HK4:=lh hR
    clear hR hp4 h43 hF4
    go_wp2
    go_ret
    have h5:=heap_setCell_same W4 p 1 _ _ (.int .i64 8) HP4.out
    exact ⟨rfl, h5, HF4.out.keep (kept_set p 1 _ _) (by simpa using HGP.out), ((HK3.out.mono (T:=[g, p]) (by simp)).trans (HK4.out.mono (T:=[g, p]) (by simp)) (fun x hx => .inl hx)).trans ((kept_set p 1 _ _).mono (T:=[g, p]) (by simp)) (fun x hx => .inl hx)⟩
end Go.Proofs.YtmpjikihnmagoaaGreatDoor
