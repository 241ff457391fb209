/-
  A length's field is pushed on the reading decoder and popped again (171, 170). Conditions: an empty stack; a length of 7.
-/
import Derived.Test.YtmpjikihnmagoaaGreatDoorZT62
import Derived.Test.YtmpjikihnmagoaaGreatDoorZT27
set_option maxRecDepth 100000
set_option maxHeartbeats 3200000
namespace Go.Proofs.YtmpjikihnmagoaaGreatDoor
open Go.RowKit
theorem ta_dyn (v : Value) (W : World) : (Instr.typeAssert (.iface 312 v) 323 327 true).run Tryz.prog W = .ok (.tuple #[.iface 312 v, .bool true]) W:=by kernel_rfl
def dpsF (p g : Nat) (ix : Nat) (v : Value) (_ : World) : Prop :=
 match ix with
 | 0 => v = .iface 312 (.pointer (some ⟨g, 6, none⟩))
 | 1 => v = .pointer (some ⟨p, 0, none⟩)
 | 2 => v = .pointer (some ⟨p, 0, none⟩)
 | 3 => v = .pointer (some ⟨p, 1, none⟩)
 | 4 => v = .int .i64 0
 | 5 => v = .func (.method "pub-kestrel/pub/sarama.saveOffset") #[.iface 312 (.pointer (some ⟨g, 6, none⟩))] #[]
 | 6 => v = .func (.method "pub-kestrel/pub/sarama.saveOffset") #[.iface 312 (.pointer (some ⟨g, 6, none⟩))] #[]
 | 7 => v = .iface 312 (.pointer (some ⟨g, 6, none⟩))
 | _ => True
theorem dpsF_stable {p g} : ∀ ix v w w', dpsF p g ix v w → Kept [] w w' → dpsF p g ix v w':=by
 intro ix v w w' h k
 unfold dpsF at h ⊢
 split at h <;> (first | (exact h))
theorem dec_push_vl (p g : Nat) (aa : Addr) (cc : Nat) (h at_ td od ky vl : Value) (s n : Int) (rest : List UInt8) (w : World) (hd : DecAt p (some aa) cc (.slice none 0 0) [] (14 :: rest) w) (hf : FieldAt g h at_ td od ky vl s n w) (hgp : g ≠ p) (hga : g ≠ aa.block) : Calls Tryz.prog 171 #[.pointer (some ⟨p, 0, none⟩), .iface 312 (.pointer (some ⟨g, 6, none⟩))] w (fun e w' => e = .returned .nilIface ∧ ∃ y c, DecAt p (some aa) cc (.slice (some ⟨y, 0, none⟩) 1 c) [14] rest w' ∧ SlIs w' 1 (some ⟨y, 0, none⟩) 1 [.iface 312 (.pointer (some ⟨g, 6, none⟩))] ∧ w.heap.size ≤ y ∧ y < w'.heap.size ∧ FieldAt g h at_ td od ky vl 0 7 w' ∧ Kept [g, p] w w'):=by
 have HD:=lh hd
 have HF:=lh hf
 have HGP:=lh hgp
 have HGA:=lh hga
 have hta:=ta_dyn (.pointer (some ⟨g, 6, none⟩))
 have HAP:=lh (hd.2.2.2.2 aa rfl)
 have HPL : Hid (p < w.heap.size):=lh (Array.getElem?_eq_some_iff.1 hd.1).1
 obtain ⟨st0, hst⟩ : ∃ st0, (.slice none 0 0 : Value) = st0:=⟨_, rfl⟩
 rw [hst] at HD
 have HST:=lh hst
 clear hd hf hgp hga hst
 go_enter Tryz.func171, Tryz.ntmps171
 go_wp2
 refine wp_region_facts' 8 (Kept []) (dpsF p g) mixed (by kernel_rfl) (Kept.refl _ _).drew (fun _ _ _ h k => h.trans k (fun x hx => .inl hx)) dpsF_stable ?_ ?_
 ·refine ⟨?_, ?_, ?_, ?_, ?_, ?_, ?_, ?_, trivial⟩
  all_goals go_light
  all_goals intro a W hR hs hd
  all_goals have p0 : a.tmps[0]? = some (.pointer (some ⟨p, 0, none⟩)):=hs.2.2 0 (by decide)
  all_goals have p1 : a.tmps[1]? = some (.iface 312 (.pointer (some ⟨g, 6, none⟩))):=hs.2.2 1 (by decide)
  all_goals have hRr : Kept [] W W:=Kept.refl _ _
  all_goals have m_p_1 : W.cell? ⟨p, 1, none⟩ = some (.int .i64 0):=hR.cell (HD.out.cell1) (by simp)
  all_goals have hna_saveOffset:=fva_saveOffset ⟨g, 6, none⟩ W
  ·refine ov W (.iface 312 (.pointer (some ⟨g, 6, none⟩))) ?_ (.mk hRr rfl rfl)
   simp [go_sem, p1]
  ·refine ov W (.pointer (some ⟨p, 0, none⟩)) ?_ (.mk hRr rfl rfl)
   simp [go_sem, p0]
  ·have q1 : _ = _:=hd.1 rfl
   refine ov W (.pointer (some ⟨p, 0, none⟩)) ?_ (.mk hRr rfl rfl)
   simp [go_sem, q1]
  ·have q2 : _ = _:=hd.1 rfl
   refine ov W (.pointer (some ⟨p, 1, none⟩)) ?_ (.mk hRr rfl rfl)
   simp [go_sem, q2]
  ·have q3 : _ = _:=hd.1 rfl
   refine ov W (.int .i64 0) ?_ (.mk hRr rfl rfl)
   simp [go_sem, q3, m_p_1]
  ·have q0 : _ = _:=hd.1 rfl
   refine ov W (.func (.method "pub-kestrel/pub/sarama.saveOffset") #[.iface 312 (.pointer (some ⟨g, 6, none⟩))] #[]) ?_ (.mk hRr rfl rfl)
   simp [go_sem, q0]
  ·have q5 : _ = _:=hd.1 rfl
   refine ov W (.func (.method "pub-kestrel/pub/sarama.saveOffset") #[.iface 312 (.pointer (some ⟨g, 6, none⟩))] #[]) ?_ (.mk hRr rfl rfl)
   simp [go_sem, q5, hna_saveOffset]
  ·have q0 : _ = _:=hd.1 rfl
   have q5 : _ = _:=hd.2.1 rfl
   have q6 : _ = _:=hd.2.2.1 rfl
   refine ov W (.iface 312 (.pointer (some ⟨g, 6, none⟩))) ?_ (.mk hRr rfl rfl)
   simp [go_sem, q0]
 ·intro f W1 hR hf
  obtain ⟨f0, f1, f2, f3, f4, f5, f6, f7, -⟩:=hf
  change f 9 = _ at f0
  change f 10 = _ at f1
  change f 11 = _ at f2
  change f 12 = _ at f3
  change f 13 = _ at f4
  change f 14 = _ at f5
  change f 15 = _ at f6
  change f 16 = _ at f7
  simp only [headDsts, List.take_succ_cons, List.take_zero, List.filterMap_cons, List.filterMap_nil, setAll, f0, f1, f2, f3, f4, f5, f6, f7, List.setIfInBounds_toArray, List.set_cons_succ, List.set_cons_zero, List.drop_succ_cons, List.drop_zero]
  clear f0 f1 f2 f3 f4 f5 f6 f7 f
  have HR:=lh hR
  clear hR
  go_wp2_with (first
   | (refine wl_invoke rfl _ _ _ _ rfl 312 (.pointer (some ⟨g, 6, none⟩)) (by simp [go_sem]) "saveOffset" rfl [.int .i64 0] (by simp [go_sem]) _ ⟨_, _, (by kernel_rfl), fv_saveOffset _ _, fva_saveOffset _ _, vl_save g h at_ td od ky vl s n 0 _ (HF.out.keep HR.out (by simp))⟩ ?_; rintro e w2 ⟨rfl, hF2, hk2⟩; refine ⟨_, rfl, ?_⟩; have HF2:=lh hF2; have HK2:=lh ((HR.out.mono (T:=[g]) (by simp)).trans hk2 (fun x hx => .inl hx)); have HD2:=lh (HD.out.keep HK2.out (by simpa using HGP.out.symm) (fun a e => by cases e; simpa using HGA.out.symm)); clear hF2 hk2)
   | (refine wl_invoke rfl _ _ _ _ rfl 312 (.pointer (some ⟨g, 6, none⟩)) (by simp [go_sem]) "decode" rfl [.iface 148 (.pointer (some ⟨p, 0, none⟩))] (by simp [go_sem]) _ ⟨_, _, (by kernel_rfl), fv_decode _ _, fva_decode _ _, vl_decode (dec_real p aa cc st0) g h at_ td od ky vl 0 n [] rest _ HF2.out (by rintro (e | e); exact HGP.out e; exact HGA.out e) HD2.out⟩ ?_; rintro e w3 ⟨rfl, hF3, hD3, hk3⟩; refine ⟨_, rfl, ?_⟩; have HF3:=lh hF3; have hD3' : DecAt p (some aa) cc st0 [14] rest w3:=hD3; have HD3:=lh hD3'; have hc2 : w3.cell? ⟨p, 2, none⟩ = some st0:=(by have h9:=hD3'.1; simp [World.cell?, h9]); have hf2:=hD3'.frozen (o:=2); have HK3:=lh ((HK2.out.mono (T:=[g, p]) (by simp)).trans hk3 (fun x hx => .inl hx)); clear hF3 hD3 hD3' hk3)
   | (at_builtin; refine wl_append rfl _ _ 149 rfl w.heap.size 323 Tryz.underlying149 info323 rfl (by decide) st0 0 [] rfl (by rw [← HST.out]; exact World.ownsRow_nil _ _ _ _) (some ⟨w3.heap.size, 0, none⟩) 1 1 [.iface 312 (.pointer (some ⟨g, 6, none⟩))] (by simp [go_sem]) (one_sl2 _ _ _ rfl) (by simp [Value.oneCell']) (by omega) (by omega) (by have e1:=HK3.out.size; rw [alloc_size]; omega) ?_; intro v4 w4 hown4 hk4 hat4; clear hat4; have hk4' : Kept [] (w3.alloc (.cells #[.iface 312 (.pointer (some ⟨g, 6, none⟩))] 323)) w4:=(by rw [← HST.out] at hk4; exact hk4); obtain ⟨y, c, rfl, hsl4, hy1, hy2⟩:=own_one hown4; have hk34 : Kept [] w3 w4:=(((Kept.refl [] _).alloc _).trans0 hk4'); have hD4:=HD3.out.keep0 hk34; have hc4 : w4.cell? ⟨p, 2, none⟩ = some st0:=(by have h9:=hD4.1; simp [World.cell?, h9]); have hf4:=hD4.frozen (o:=2); have HD4:=lh hD4; have HSL4:=lh hsl4; have HY1:=lh hy1; have HY2:=lh hy2; have HK4:=lh hk34; have hp5 : (w4.setCell ⟨p, 2, none⟩ (.slice (some ⟨y, 0, none⟩) 1 c)).heap[p]? = some (.cells #[.slice (some aa) ([14].length + rest.length) cc, .int .i64 ([14].length : Nat), .slice (some ⟨y, 0, none⟩) 1 c] 151 (0, 0)):=(by rw [heap_setCell_same _ _ _ _ _ _ hD4.1]; rfl); have HP5:=lh hp5; have hc5 : (w4.setCell ⟨p, 2, none⟩ (.slice (some ⟨y, 0, none⟩) 1 c)).cell? ⟨p, 1, none⟩ = some (.int .i64 1):=(by simp [World.cell?, hp5]); have hf5 : (w4.setCell ⟨p, 2, none⟩ (.slice (some ⟨y, 0, none⟩) 1 c)).frozen? ⟨p, 1, none⟩ = false:=(by simp [World.frozen?, hp5]); clear hown4 hk4 hk4' hsl4 hy1 hy2 hD4 hk34 hp5))
  go_ret
  have hyp : y ≠ p:=fun e => by
   have e0:=HPL.out
   have e1:=HY1.out
   omega
  have h6:=heap_setCell_same _ p 1 _ _ (.int .i64 1) HP5.out
  have hkf : Kept [p] w4 ((w4.setCell ⟨p, 2, none⟩ (.slice (some ⟨y, 0, none⟩) 1 c)).setCell ⟨p, 1, none⟩ (.int .i64 1)):=(kept_set p 2 _ _).trans (kept_set p 1 _ _) (fun x hx => .inl hx)
  have hks:=hkf.size
  have hy2:=HY2.out
  obtain ⟨d1, d2, d3, d4, d5⟩:=HD4.out
  exact ⟨rfl, y, c, ⟨h6, d2.kept hkf (fun a e => by cases e; simpa using HAP.out), d3, d4, d5⟩, HSL4.out.kept hkf (fun a e => by cases e; simpa using hyp), HY1.out, by omega, (HF3.out.keep HK4.out (by simp)).keep hkf (by simpa using HGP.out), (HK3.out.trans0 HK4.out).trans (hkf.mono (by simp)) (fun x hx => .inl hx)⟩
end Go.Proofs.YtmpjikihnmagoaaGreatDoor
