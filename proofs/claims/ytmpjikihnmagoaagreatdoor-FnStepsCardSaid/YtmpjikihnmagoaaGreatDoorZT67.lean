/-
  What read (32) reads. Conditions: the record of recordsAlive.
-/
import Derived.Test.YtmpjikihnmagoaaGreatDoorZT66
import Derived.Test.YtmpjikihnmagoaaGreatDoorZT62
import Derived.Test.YtmpjikihnmagoaaGreatDoorZT45
import Derived.Lib.SlBytesConst
set_option maxRecDepth 100000
set_option maxHeartbeats 3200000
namespace Go.Proofs.YtmpjikihnmagoaaGreatDoor
open Go.RowKit
/-- The record that has been read. -/
def GotRec (z g : Nat) (w : World) : Prop:=∃ q b cp, FieldAt g (.slice (some q) 0 0) (.int .i8 0) (.int .i64 0) (.int .i64 0) (.slice none 0 0) (.slice (some b) 1 cp) 0 7 w ∧ SlIs w 1 (some b) 1 (Lib.byteCells [97]) ∧ b.block ≠ g ∧ z ≤ b.block
theorem GotRec.kept {z g : Nat} {S : List Nat} {w w' : World} (h : GotRec z g w) (k : Kept S w w') (hg : g ∉ S) (hz : ∀ s ∈ S, s < z) : GotRec z g w':=by
 obtain ⟨q, b, cp, h1, h2, h3, h4⟩:=h
 exact ⟨q, b, cp, h1.keep k hg, h2.kept k (fun a e => by cases e; intro hm; have:=hz _ hm; omega), h3, h4⟩
theorem td_rec (v : Value) (W : World) : (Instr.typeAssert (.iface 113 v) 20 191 true).run Tryz.prog W = .ok (.tuple #[.iface 113 v, .bool true]) W:=by kernel_rfl
theorem fd_rec (a : Addr) (w : World) : (Go.method 483 113 (.pointer (some a)) "pub-kestrel/pub/sarama.decode").run Tryz.prog w = .ok (146, .pointer (some a)) w:=by kernel_rfl
theorem fda_rec (a : Addr) (w : World) : (nilAhead 483 113 (.pointer (some a)) "pub-kestrel/pub/sarama.decode").run Tryz.prog w = .ok (some false) w:=by kernel_rfl
theorem zzDecode_any (g : Nat) (aa : Addr) (cc : Nat) (w : World) (hsl : SlIs w 1 (some aa) 8 (Lib.byteCells [14, 0, 0, 0, 1, 2, 97, 0])) (hcc : 8 ≤ cc) (hal : aa.block < w.heap.size) (hf : FieldAt g (.slice none 0 0) (.int .i8 0) (.int .i64 0) (.int .i64 0) (.slice none 0 0) (.slice none 0 0) 0 0 w) (hga : g ≠ aa.block) : Calls Tryz.prog 62 #[.slice (some aa) 8 cc, .iface 113 (.pointer (some ⟨g, 0, none⟩))] w (fun e w' => e = .returned (.tuple #[.int .i64 8, .nilIface]) ∧ GotRec aa.block g w' ∧ Kept [g] w w'):=by
 have hta:=td_rec (.pointer (some ⟨g, 0, none⟩))
 obtain ⟨p, hp⟩ : ∃ p, w.heap.size = p:=⟨_, rfl⟩
 have hgl:=hf.lt
 have HGL:=lh hgl
 have hdec : Calls Tryz.prog 146 #[.pointer (some ⟨g, 0, none⟩), .iface 148 (.pointer (some ⟨p, 0, none⟩))] (w.alloc (.cells #[.slice (some aa) 8 cc, .int .i64 0, .slice none 0 0] 151)) (fun e w' => e = .returned .nilIface ∧ ∃ q b cp, FieldAt g (.slice (some q) 0 0) (.int .i8 0) (.int .i64 0) (.int .i64 0) (.slice none 0 0) (.slice (some b) 1 cp) 0 7 w' ∧ SlIs w' 1 (some b) 1 (Lib.byteCells [97]) ∧ (∃ st, w'.heap[p]? = some (.cells #[.slice (some aa) 8 cc, .int .i64 8, st] 151 (0, 0))) ∧ b.block = aa.block ∧ Kept [g, p] (w.alloc (.cells #[.slice (some aa) 8 cc, .int .i64 0, .slice none 0 0] 151)) w') :=
  recDec p g aa cc _ ⟨by rw [← hp]; exact heap_alloc_new w _, hsl.kept0 ((Kept.refl [] w).alloc _), hcc, by simp, fun a e => by cases e; omega⟩ (hf.keep ((Kept.refl [] w).alloc _) (by simp)) (by omega) hga
 have HDEC:=lh hdec
 have HP:=lh hp
 have HGA:=lh hga
 clear hsl hcc hal hf hga hdec hgl
 go_enter Tryz.func62, Tryz.ntmps62
 go_wp2_with (first
  | (refine wl_invoke rfl _ _ _ _ rfl 113 (.pointer (some ⟨g, 0, none⟩)) (by simp [go_sem]) "decode" rfl [.iface 148 (.pointer (some ⟨p, 0, none⟩))] (by simp [go_sem]) _ ⟨_, _, (by kernel_rfl), fd_rec _ _, fda_rec _ _, HDEC.out⟩ ?_; rintro e w2 ⟨rfl, q, b, cp, h1, h2, ⟨st, h3⟩, h5, h4⟩; refine ⟨_, rfl, ?_⟩; have H1:=lh h1; have H2:=lh h2; have H5:=lh h5; have hc : w2.cell? ⟨p, 1, none⟩ = some (.int .i64 8):=(by simp [World.cell?, h3]); have H4:=lh h4; clear h1 h2 h3 h4 h5))
 refine bodyPost_ret (results_tmp2 rfl _ _ _) rfl ⟨rfl, ⟨q, b, cp, H1.out, H2.out, ?_, ?_⟩, ?_⟩
 ·rw [H5.out]
  exact HGA.out.symm
 ·rw [H5.out]
  exact Nat.le_refl _
 ·have h7:=HP.out
  exact (((Kept.refl [] w).alloc _).mono (T:=[g]) (by simp)).trans H4.out (fun x hx => by simp at hx ⊢; omega)
/-- One operation of the closure reads the record. -/
def rdE (g i : Nat) (a b : World) : Prop:=Kept (match i with | 3 => [g] | _ => []) a b
theorem rdE_R {g i : Nat} {a b c : World} (h : Kept [g] a b) (k : rdE g i b c) : Kept [g] a c:=by
 unfold rdE at k
 split at k
 ·exact h.trans k (fun x hx => .inl hx)
 ·exact h.trans0 k
def rdPre (g : Nat) (i : Nat) (w : World) : Prop:=i = 3 → FieldAt g (.slice none 0 0) (.int .i8 0) (.int .i64 0) (.int .i64 0) (.slice none 0 0) (.slice none 0 0) 0 0 w
theorem rdPre_stable {g : Nat} : ∀ i j w w', i ≠ j → rdPre g j w → rdE g i w w' → rdPre g j w':=by
 intro i j w w' hij h hk hj
 subst hj
 unfold rdE at hk
 split at hk
 ·exact absurd rfl hij
 ·exact (h rfl).keep hk (by simp)
theorem GotRec.le {z z' g : Nat} {w : World} (h : GotRec z g w) (hz : z' ≤ z) : GotRec z' g w:=by
 obtain ⟨q, b, cp, h1, h2, h3, h4⟩:=h
 exact ⟨q, b, cp, h1, h2, h3, by omega⟩
def rdF (A : Option Addr) (c z g : Nat) (ix : Nat) (v : Value) (W : World) : Prop :=
 match ix with
 | 0 => v = .slice A 8 c
 | 1 => ∃ a1 c1, v = .slice (some a1) 8 c1 ∧ SlIs W 1 (some a1) 8 (Lib.byteCells [14, 0, 0, 0, 1, 2, 97, 0]) ∧ z ≤ a1.block ∧ a1.block < W.heap.size ∧ 8 ≤ c1
 | 2 => v = .iface 113 (.pointer (some ⟨g, 0, none⟩))
 | 3 => (v = .tuple #[.int .i64 8, .nilIface]) ∧ GotRec z g W
 | 4 => v = .tuple #[.int .i64 8, .nilIface]
 | 5 => v = .int .i64 8
 | 6 => v = .nilIface
 | 7 => v = .int .i64 8
 | _ => True
theorem rdF_stable {A c z g} (hgz : g < z) : ∀ i j v w w', i ≠ j → rdF A c z g j v w → rdE g i w w' → rdF A c z g j v w':=by
 intro i j v w w' hij h hk
 have hk1 : Kept [g] w w':=by
  unfold rdE at hk
  split at hk
  ·exact hk
  ·exact hk.mono (by simp)
 unfold rdF at h ⊢
 split at h <;> (first | (exact h) | (obtain ⟨a1, c1, h1, h2, h3, h4, h5⟩:=h; exact ⟨a1, c1, h1, h2.kept hk1 (fun a e => by cases e; simp; omega), h3, by have:=hk1.size; omega, h5⟩) | skip)
 unfold rdE at hk
 split at hk
 ·exact absurd rfl hij
 ·exact ⟨h.1, h.2.kept hk (by simp) (by simp)⟩
/-- What the closure of read leaves. -/
def RdC (z g bn bok : Nat) (w w' : World) : Prop:=w'.heap[bn]? = some (.cells #[.int .i64 8] 3 (0, 0)) ∧ w'.heap[bok]? = some (.cells #[.bool true] 4 (0, 0)) ∧ GotRec z g w' ∧ Kept [g, bn, bok] w w'
theorem closure61 (bb bx bn bok g : Nat) (A : Option Addr) (c : Nat) (w : World) (hsl : SlIs w 1 A 8 (Lib.byteCells [14, 0, 0, 0, 1, 2, 97, 0])) (hAg : ∀ a, A = some a → a.block ≠ g) (hf : FieldAt g (.slice none 0 0) (.int .i8 0) (.int .i64 0) (.int .i64 0) (.slice none 0 0) (.slice none 0 0) 0 0 w) (hcb : w.cell? ⟨bb, 0, none⟩ = some (.slice A 8 c)) (hcx : w.cell? ⟨bx, 0, none⟩ = some (.iface 113 (.pointer (some ⟨g, 0, none⟩)))) (hnb : bb ≠ g) (hnx : bx ≠ g) (hn : w.heap[bn]? = some (.cells #[.int .i64 0] 3 (0, 0))) (hok : w.heap[bok]? = some (.cells #[.bool false] 4 (0, 0))) (hne : bn ≠ bok) (hgn : bn ≠ g) (hgk : bok ≠ g) : Calls Tryz.prog 61 #[.pointer (some ⟨bb, 0, none⟩), .pointer (some ⟨bx, 0, none⟩), .pointer (some ⟨bn, 0, none⟩), .pointer (some ⟨bok, 0, none⟩)] w (fun e w' => e = .returned (.tuple #[]) ∧ RdC w.heap.size g bn bok w w'):=by
 have HB:=lh hsl
 have HBG:=lh hAg
 have HF0:=lh hf
 have HCB:=lh hcb
 have HCX:=lh hcx
 have HNB:=lh hnb
 have HNX:=lh hnx
 have HO:=lh hn
 have HOK:=lh hok
 have HNE:=lh hne
 have HGN:=lh hgn
 have HGK:=lh hgk
 obtain ⟨z, hz⟩ : ∃ z, w.heap.size = z:=⟨_, rfl⟩
 have HZ:=lh hz
 have hgz : g < z:=by rw [← hz]; exact hf.lt
 have HGZ:=lh hgz
 rw [hz]
 clear hsl hAg hf hcb hcx hnb hnx hn hok hne hgn hgk hz
 go_enter Tryz.func61, Tryz.ntmps61
 go_wp2
 refine wp_region_effs' 8 (Kept [g]) (rdE g) (rdPre g) (rdF A c z g) mixed (by kernel_rfl) (Kept.refl _ _).drew (fun i _ _ _ h k => rdE_R h k) (fun _ _ _ => HF0.out) (rdF_stable hgz) rdPre_stable ?_ ?_
 ·refine ⟨?_, ?_, ?_, ?_, ?_, ?_, ?_, ?_, trivial⟩
  all_goals go_light
  all_goals intro a W hR hpre hs hd
  all_goals have p0 : a.tmps[0]? = some (.pointer (some ⟨bb, 0, none⟩)):=hs.2.2 0 (by decide)
  all_goals have p1 : a.tmps[1]? = some (.pointer (some ⟨bx, 0, none⟩)):=hs.2.2 1 (by decide)
  all_goals have hRr : Kept [] W W:=Kept.refl _ _
  all_goals have hcb : W.cell? ⟨bb, 0, none⟩ = _:=hR.cell HCB.out (by simpa using HNB.out)
  all_goals have hcx : W.cell? ⟨bx, 0, none⟩ = _:=hR.cell HCX.out (by simpa using HNX.out)
  ·refine ov W (.slice A 8 c) ?_ (.mk hRr rfl rfl)
   simp [go_sem, p0, hcb]
  ·have q0 : _ = _:=hd.1 rfl
   refine ow_call (w':=W) (f:=48) (args:=#[.slice A 8 c]) (by simp [go_sem, q0]) (copied_any W A 8 c [14, 0, 0, 0, 1, 2, 97, 0] rfl (by omega) (HB.out.kept hR (fun a e => by cases e; simpa using HBG.out a rfl))) ?_
   rintro e w' ⟨a1, c1, rfl, k1, k2, k3, k4, hk1⟩
   exact ⟨_, rfl, .mk hk1 ⟨a1, c1, rfl, k1, by have h8:=hR.size; have h7:=HZ.out; omega, k3, k4⟩ rfl⟩
  ·refine ov W (.iface 113 (.pointer (some ⟨g, 0, none⟩))) ?_ (.mk hRr rfl rfl)
   simp [go_sem, p1, hcx]
  ·have q1:=hd.1 rfl
   have q2 : _ = _:=hd.2.1 rfl
   obtain ⟨a1, c1, q1, k1, k2, k3, k4⟩:=q1
   change _ = _ at q1
   have hF:=hpre rfl
   refine ow_call (w':=W) (f:=62) (args:=#[.slice (some a1) 8 c1, .iface 113 (.pointer (some ⟨g, 0, none⟩))]) (by simp [go_sem, q1, q2]) (zzDecode_any g a1 c1 W k1 k4 k3 hF (by have h7:=HGZ.out; omega)) ?_
   rintro e w' ⟨rfl, h1, hk1⟩
   exact ⟨_, rfl, .mk hk1 ⟨rfl, h1.le k2⟩ rfl⟩
  ·have q3:=hd.1 rfl
   obtain ⟨q3, k1⟩:=q3
   change _ = _ at q3
   refine ov W (.tuple #[.int .i64 8, .nilIface]) ?_ (.mk hRr rfl rfl)
   simp [go_sem, q3]
  ·have q4 : _ = _:=hd.1 rfl
   refine ov W (.int .i64 8) ?_ (.mk hRr rfl rfl)
   simp [go_sem, q4]
  ·have q4 : _ = _:=hd.1 rfl
   refine ov W .nilIface ?_ (.mk hRr rfl rfl)
   simp [go_sem, q4]
  ·have q5 : _ = _:=hd.1 rfl
   refine ov W (.int .i64 8) ?_ (.mk hRr rfl rfl)
   simp [go_sem, q5]
 ·intro f W1 hR hf
  obtain ⟨f0, f1, f2, f3, f4, f5, f6, f7, -⟩:=hf
  change f 7 = _ at f0
  change ∃ a1 c1, (f 8) = .slice (some a1) 8 c1 ∧ SlIs W1 1 (some a1) 8 (Lib.byteCells [14, 0, 0, 0, 1, 2, 97, 0]) ∧ z ≤ a1.block ∧ a1.block < W1.heap.size ∧ 8 ≤ c1 at f1
  obtain ⟨x1, g1⟩ : ∃ x, f 8 = x:=⟨_, rfl⟩
  rw [g1] at f1
  change f 9 = _ at f2
  change ((f 10) = .tuple #[.int .i64 8, .nilIface]) ∧ GotRec z g W1 at f3
  obtain ⟨x3, g3⟩ : ∃ x, f 10 = x:=⟨_, rfl⟩
  rw [g3] at f3
  change f 6 = _ at f4
  change f 11 = _ at f5
  change f 12 = _ at f6
  change f 4 = _ at f7
  simp only [headDsts, List.take_succ_cons, List.take_zero, List.filterMap_cons, List.filterMap_nil, setAll, f0, g1, f2, g3, f4, f5, f6, f7, List.setIfInBounds_toArray, List.set_cons_succ, List.set_cons_zero, List.drop_succ_cons, List.drop_zero]
  clear f0 g1 f2 g3 f4 f5 f6 f7 f
  obtain ⟨rfl, hgot⟩:=f3
  clear f1
  have hbo:=hR.heap HO.out (by simpa using HGN.out)
  have hbk:=hR.heap HOK.out (by simpa using HGK.out)
  have HBO:=lh hbo
  have HBK:=lh hbk
  have HGOT:=lh hgot
  have HR:=lh hR
  clear hbo hbk hgot hR hgz
  go_wp2
  refine wp_region_effs' 4 (Kept [bn]) (pcE bn) (pcPre bn (.int .i64 0) 3) (pcF bn (.int .i64 8) 3) mixed (by kernel_rfl) ((Kept.refl _ _).drew) (fun i _ _ _ h k => pcE_R h k) (fun _ _ _ => HBO.out) pcF_stable pcPre_stable ?_ ?_
  ·refine ⟨?_, ?_, ?_, ?_, trivial⟩
   all_goals go_light
   all_goals intro a W hR hpre hs hd
   all_goals have p4 : a.tmps[4]? = some (.int .i64 8):=hs.2.2 4 (by decide)
   all_goals have p5 : a.tmps[5]? = some (.nilIface):=hs.2.2 5 (by decide)
   all_goals have p2 : a.tmps[2]? = some (.pointer (some ⟨bn, 0, none⟩)):=hs.2.2 2 (by decide)
   all_goals have hRr : Kept [] W W:=Kept.refl [] W
   ·refine ov W (.int .i64 8) ?_ (.mk hRr rfl rfl)
    simp [go_sem, p4]
   ·refine ov W .nilIface ?_ (.mk hRr rfl rfl)
    simp [go_sem, p5]
   ·have q1 : _ = _:=hd.1 rfl
    refine ov W (.bool true) ?_ (.mk hRr rfl rfl)
    simp [go_sem, q1]
   ·have q0 : _ = _:=hd.1 rfl
    have hb:=hpre rfl
    have hc : W.cell? ⟨bn, 0, none⟩ = some (.int .i64 0):=by simp [World.cell?, hb]
    have hf : W.frozen? ⟨bn, 0, none⟩ = false:=by simp [World.frozen?, hb]
    refine ow_skip (w':=W.setCell ⟨bn, 0, none⟩ (.int .i64 8)) (by simp [go_sem, p2, q0, hc, hf]) ?_
    have h5:=heap_setCell_same W bn 0 _ 3 (.int .i64 8) hb
    exact ⟨undef, rfl, (Kept.refl _ _).setCell (.inl (by simp)) _, h5, fun _ => h5⟩
  ·intro f' W_2 hR hf
   obtain ⟨f0, f1, f2, f3, -⟩:=hf
   change f' 13 = _ at f0
   change f' 14 = _ at f1
   change f' 15 = _ at f2
   change W_2.heap[bn]? = some (.cells #[.int .i64 8] 3 (0, 0)) at f3
   simp only [headDsts, List.take_succ_cons, List.take_zero, List.filterMap_cons, List.filterMap_nil, setAll, f0, f1, f2, List.setIfInBounds_toArray, List.set_cons_succ, List.set_cons_zero, List.drop_succ_cons, List.drop_zero]
   clear f0 f1 f2 f'
   have hbk2:=hR.heap HBK.out (fun hm => HNE.out (List.mem_singleton.1 hm).symm)
   have hcb : W_2.cell? ⟨bok, 0, none⟩ = some (.bool false):=by simp [World.cell?, hbk2]
   have hfb : W_2.frozen? ⟨bok, 0, none⟩ = false:=by simp [World.frozen?, hbk2]
   have h6:=heap_setCell_same W_2 bok 0 _ 4 (.bool true) hbk2
   have h7 : (W_2.setCell ⟨bok, 0, none⟩ (.bool true)).heap[bn]? = some (.cells #[.int .i64 8] 3 (0, 0)):=by
    rw [heap_setCell_other _ _ _ _ (by simpa using HNE.out)]
    exact f3
   have hz:=HZ.out
   have hbnz : bn < z:=by rw [← hz]; exact (Array.getElem?_eq_some_iff.1 HO.out).1
   have hbkz : bok < z:=by rw [← hz]; exact (Array.getElem?_eq_some_iff.1 HOK.out).1
   have hk8 : Kept [bn, bok] W1 (W_2.setCell ⟨bok, 0, none⟩ (.bool true)):=(hR.mono (by simp)).setCell (.inl (by simp)) _
   have HG9:=lh (HGOT.out.kept hk8 (by simp; exact ⟨HGN.out.symm, HGK.out.symm⟩) (by intro s hs; simp at hs; omega))
   have HK9:=lh ((HR.out.mono (T:=[g, bn, bok]) (by simp)).trans (hk8.mono (T:=[g, bn, bok]) (by simp)) (fun x hx => .inl hx))
   have H6:=lh h6
   have H7:=lh h7
   clear h6 h7 hbk2 f3 hR hk8 hbnz hbkz hz
   go_wp2
   refine bodyPost_end (results_none rfl _ _ _) rfl ?_
   exact ⟨rfl, H7.out, H6.out, HG9.out, HK9.out⟩
theorem read32 (g : Nat) (A : Option Addr) (c : Nat) (w : World) (hsl : SlIs w 1 A 8 (Lib.byteCells [14, 0, 0, 0, 1, 2, 97, 0])) (hAg : ∀ a, A = some a → a.block ≠ g) (hf : FieldAt g (.slice none 0 0) (.int .i8 0) (.int .i64 0) (.int .i64 0) (.slice none 0 0) (.slice none 0 0) 0 0 w) : Calls Tryz.prog 32 #[.slice A 8 c, .iface 113 (.pointer (some ⟨g, 0, none⟩))] w (fun e w' => e = .returned (.tuple #[.int .i64 8, .bool true]) ∧ GotRec w.heap.size g w' ∧ Kept [g] w w'):=by
 have hmf : ∀ (fn : Fn) (first cap : Array Value) (w : World), (Instr.makeFunc fn first cap).run Tryz.prog w = .ok (.func fn first cap) w:=fun _ _ _ _ => rfl
 have HGL:=lh hf.lt
 have HCL0:=lh (fun (W : World) (bb bx bn bok : Nat) (hk : Kept [] w W) => closure61 bb bx bn bok g A c W (hsl.kept0 hk) hAg (hf.keep hk (by simp)))
 clear hsl hAg hf
 go_enter Tryz.func32, Tryz.ntmps32
 go_wp2_with fail
 obtain ⟨W5, hW5, hs5, hK5, b0, b1, b2, b3⟩:=four_blocks w (Obj.cells #[Value.slice A 8 c] 34) (Obj.cells #[Value.iface 113 (.pointer (some ⟨g, 0, none⟩))] 20) (Obj.cells #[Value.int .i64 0] 3) (Obj.cells #[Value.bool false] 4)
 rw [← hW5]
 obtain ⟨z, hz⟩ : ∃ z, w.heap.size = z:=⟨_, rfl⟩
 rw [hz] at hs5 b0 b1 b2 b3 ⊢
 have HZ:=lh hz
 clear hW5
 simp only [Nat.add_assoc, Nat.reduceAdd]
 obtain ⟨W6, hW6⟩ : ∃ W6, W6 = W5.alloc (.cells #[.bool false] 4):=⟨_, rfl⟩
 have hK6 : Kept [] W5 W6:=by rw [hW6]; exact (Kept.refl _ _).alloc _
 have hcell : ∀ {k : Nat} {v : Value} {t : TypeId}, W5.heap[k]? = some (.cells #[v] t (0, 0)) → W6.cell? ⟨k, 0, none⟩ = some v:=fun h => by have:=hK6.heap h (by simp); simp [World.cell?, this]
 have hgl:=HGL.out
 have hcl:=HCL0.out W6 z (z + 1) (z + 2) (z + 3) (hK5.trans0 hK6) (hcell b0) (hcell b1) (by omega) (by omega) (hK6.heap b2 (by simp)) (hK6.heap b3 (by simp)) (by omega) (by omega) (by omega)
 have hcf : ∀ (args : Array Value) (w : World), (callFunc 61 args).run Tryz.prog w = .ok (.enter 61 args) w:=enters_of Tryz.func61 (by kernel_rfl) rfl
 have hsz6 : W6.heap.size = z + 5:=by rw [hW6, alloc_size, hs5]
 rw [hsz6] at hcl
 rw [hW6] at hcl
 have hsafe:=safe_any 61 _ W5 _ (fun W => hcf _ W) hcl (fun W' hR => by
  have hk:=hR.2.2.2
  rw [hs5]
  refine hk.heap ?_ (by simp; omega)
  rw [← hs5, heap_alloc_new])
 refine hsafe.mono ?_
 rintro e w7 ⟨rfl, W', ⟨hb2, hb3, hgot, hk⟩, hk7⟩
 rw [hs5] at hk7
 have hgot7:=hgot.kept hk7 (by simp; omega) (by intro s hs; simp at hs; omega)
 have hb2':=hk7.heap hb2 (by simp)
 have hb3':=hk7.heap hb3 (by simp)
 rw [← hW6] at hk
 have hkw7 : Kept [g] w w7:=((((hK5.trans0 hK6).mono (T:=[g]) (by simp)).trans hk (fun x hx => by simp at hx ⊢; omega))).trans hk7 (fun x hx => .inr (by simp at hx; omega))
 have HKW:=lh hkw7
 have HGOT:=lh hgot7
 have HB2:=lh hb2'
 have HB3:=lh hb3'
 have c2 : w7.cell? ⟨z + 2, 0, none⟩ = some (.int .i64 8):=by simp [World.cell?, hb2']
 have c3 : w7.cell? ⟨z + 3, 0, none⟩ = some (.bool true):=by simp [World.cell?, hb3']
 have g2 : w7.frozen? ⟨z + 2, 0, none⟩ = false:=by simp [World.frozen?, hb2']
 have g3 : w7.frozen? ⟨z + 3, 0, none⟩ = false:=by simp [World.frozen?, hb3']
 clear hk hk7 hb2 hb3 hkw7 hcl hsafe b0 b1 b2 b3 hb2' hb3' hcf hW6 hK5 hK6 hcell HCL0 hgl hgot hgot7 hsz6 hs5
 go_wp2
 have e4:=heap_setCell_same w7 (z + 2) 0 _ 3 (.int .i64 8) HB2.out
 have e5 : (w7.setCell ⟨z + 2, 0, none⟩ (.int .i64 8)).heap[z + 3]? = some (.cells #[.bool true] 4 (0, 0)):=by
  rw [heap_setCell_other _ _ _ _ (by simp)]
  exact HB3.out
 have e5':=heap_setCell_same _ (z + 3) 0 _ 4 (.bool true) e5
 have e4' : ((w7.setCell ⟨z + 2, 0, none⟩ (.int .i64 8)).setCell ⟨z + 3, 0, none⟩ (.bool true)).heap[z + 2]? = some (.cells #[.int .i64 8] 3 (0, 0)):=by
  rw [heap_setCell_other _ _ _ _ (by simp)]
  exact e4
 have hK : Kept [z + 2, z + 3] w7 ((w7.setCell ⟨z + 2, 0, none⟩ (.int .i64 8)).setCell ⟨z + 3, 0, none⟩ (.bool true)):=((Kept.refl _ _).setCell (.inl (by simp)) _).setCell (.inl (by simp)) _
 obtain ⟨w9, hw9⟩ : ∃ w9, (w7.setCell ⟨z + 2, 0, none⟩ (.int .i64 8)).setCell ⟨z + 3, 0, none⟩ (.bool true) = w9:=⟨_, rfl⟩
 rw [hw9] at e4' e5' hK ⊢
 have r4 : w9.cell? ⟨z + 2, 0, none⟩ = some (.int .i64 8):=by simp [World.cell?, e4']
 have r5 : w9.cell? ⟨z + 3, 0, none⟩ = some (.bool true):=by simp [World.cell?, e5']
 clear hw9 e4 e5 e4' e5' hmf
 have hz9:=HZ.out
 have hgl:=HGL.out
 have hkf : Kept [g] w w9:=HKW.out.trans hK (fun x hx => .inr (by simp at hx; omega))
 refine bodyPost_ret (v:=.tuple #[.int .i64 8, .bool true]) (by simp [results, Tryz.results32, go_sem, r4, r5]) rfl ⟨rfl, ?_, hkf⟩
 exact (HGOT.out.kept hK (by simp; omega) (by intro s hs; simp at hs; omega)).le (by omega)
end Go.Proofs.YtmpjikihnmagoaaGreatDoor
/-
 The record of recordsAlive is read back (30). Conditions: its form.
-/
namespace Go.Proofs.YtmpjikihnmagoaaGreatDoor
open Go.RowKit
theorem eqnil34 (W : World) (c : Nat) : (binOp .eql 34 (.slice none 0 c) (.slice none 0 0)).run Tryz.prog W = .ok (.bool true) W:=by
 simp [binOp, run_equal_slice_nil W 34 5 none 0 c Tryz.underlying34]
theorem eqsome34 (W : World) (b : Addr) (n c : Nat) : (binOp .eql 34 (.slice (some b) n c) (.slice none 0 0)).run Tryz.prog W = .ok (.bool false) W:=by
 simp [binOp, run_equal_slice_nil W 34 5 (some b) n c Tryz.underlying34]
theorem plain_nil (w : World) : Calls Tryz.prog 84 #[.slice none 0 0] w (fun e w' => e = .returned (.agg #[.bool true, .slice none 0 0]) ∧ Kept [] w w'):=by
 have heq:=fun W => eqnil34 W 0
 go_enter Tryz.func84, Tryz.ntmps84
 go_wp2_with (refine wl_store_struct rfl 60 _ _ rfl (cs:=#[.bool true, .slice none 0 0]) rfl w.heap.size rfl rfl 60 _ (heap_alloc_new _ _) rfl rfl ?_; rw [World.setRow_alloc_new])
 refine bodyPost_ret (results_cell_row rfl _ _ w.heap.size 60 #[.bool true, .slice none 0 0] (0, 0) _ rfl (heap_alloc_new _ _) Tryz.underlying60 rfl rfl) rfl ⟨rfl, (Kept.refl [] w).alloc _⟩
theorem plain_some (w : World) (b : Addr) (n c : Nat) (f : List UInt8) (hf : f.length = n) (hn : n ≤ 1000000) (hA : SlIs w 1 (some b) n (Lib.byteCells f)) : Calls Tryz.prog 84 #[.slice (some b) n c] w (fun e w' => ∃ a1 d1, e = .returned (.agg #[.bool false, .slice (some a1) n d1]) ∧ SlIs w' 1 (some a1) n (Lib.byteCells f) ∧ w.heap.size ≤ a1.block ∧ a1.block < w'.heap.size ∧ Kept [] w w'):=by
 have HCOPY:=lh (copied_any (w.alloc (.cells #[.bool false, .slice none 0 0] 60)) (some b) n c f hf hn (hA.kept0 ((Kept.refl [] w).alloc _)))
 clear hA hf hn
 have heq:=fun W => eqsome34 W b n c
 go_enter Tryz.func84, Tryz.ntmps84
 go_wp2_with (first
  | ((with_reducible refine HCOPY.out.mono ?_); rintro e w1 ⟨a1, d1, rfl, h1, h2, h3, h4, hk1⟩; have HS:=lh h1; have HG1 : Hid (w.heap.size < a1.block):=lh (by rw [alloc_size] at h2; omega); have H3:=lh h3; have HRow:=lh (hk1.heap (heap_alloc_new w (.cells #[.bool false, .slice none 0 0] 60)) (by simp)); have HK1:=lh (((Kept.refl [] w).alloc _).trans0 hk1); clear h1 h2 h3 h4 hk1)
  | (refine wl_store_struct rfl 60 _ _ rfl (cs:=#[.bool false, .slice (some a1) n d1]) rfl w.heap.size rfl rfl 60 _ HRow.out rfl (by simp [Value.oneCell']) ?_))
 have hrow : (w1.setRow w.heap.size #[.bool false, .slice (some a1) n d1]).heap[w.heap.size]? = some (.cells #[.bool false, .slice (some a1) n d1] 60 (0, 0)):=setRow_heap w1 w.heap.size _ _ 60 _ HRow.out
 have hkr : Kept [w.heap.size] w1 (w1.setRow w.heap.size #[.bool false, .slice (some a1) n d1]):=(Kept.refl _ _).setRow (.inl (by simp)) _
 refine bodyPost_ret (results_cell_row rfl _ _ w.heap.size 60 #[.bool false, .slice (some a1) n d1] (0, 0) _ rfl hrow Tryz.underlying60 rfl rfl) rfl ⟨a1, d1, rfl, HS.out.kept hkr (fun a e => by cases e; have:=HG1.out; simp; omega), by have:=HG1.out; omega, by have:=hkr.size; have:=H3.out; omega, HK1.out.trans hkr (fun x hx => .inr (by simp at hx; omega))⟩
theorem millis0 (w : World) : Calls Tryz.prog 83 #[.int .i64 0] w (fun e w' => e = .returned (.int .i64 0) ∧ Kept [] w w'):=by
 go_enter Tryz.func83, Tryz.ntmps83
 go_wp2
 go_ret
 exact ⟨rfl, Kept.refl _ _⟩
def unrF (g z cp : Nat) (_q b : Addr) (ix : Nat) (v : Value) (W : World) : Prop :=
 match ix with
 | 0 => v = .pointer (some ⟨g, 0, none⟩)
 | 1 => v = .pointer (some ⟨g, 0, none⟩)
 | 2 => v = .pointer (some ⟨g, 1, none⟩)
 | 3 => v = .int .i8 0
 | 4 => v = .pointer (some ⟨g, 0, none⟩)
 | 5 => v = .pointer (some ⟨g, 0, none⟩)
 | 6 => v = .pointer (some ⟨g, 2, none⟩)
 | 7 => v = .int .i64 0
 | 8 => v = .int .i64 0
 | 9 => v = .pointer (some ⟨g, 0, none⟩)
 | 10 => v = .pointer (some ⟨g, 0, none⟩)
 | 11 => v = .pointer (some ⟨g, 3, none⟩)
 | 12 => v = .int .i64 0
 | 13 => v = .pointer (some ⟨g, 0, none⟩)
 | 14 => v = .pointer (some ⟨g, 0, none⟩)
 | 15 => v = .pointer (some ⟨g, 4, none⟩)
 | 16 => v = .slice none 0 0
 | 17 => v = .agg #[.bool true, .slice none 0 0]
 | 18 => v = .pointer (some ⟨g, 0, none⟩)
 | 19 => v = .pointer (some ⟨g, 0, none⟩)
 | 20 => v = .pointer (some ⟨g, 5, none⟩)
 | 21 => v = .slice (some b) 1 cp
 | 22 => ∃ a1 d1, v = .agg #[.bool false, .slice (some a1) 1 d1] ∧ SlIs W 1 (some a1) 1 (Lib.byteCells [97]) ∧ z ≤ a1.block ∧ a1.block < W.heap.size
 | 23 => ∃ a1 d1, v = .agg #[.int .i8 0, .int .i64 0, .int .i64 0, .bool true, .slice none 0 0, .bool false, .slice (some a1) 1 d1, .slice none 0 0] ∧ SlIs W 1 (some a1) 1 (Lib.byteCells [97]) ∧ z ≤ a1.block ∧ a1.block < W.heap.size
 | 24 => ∃ t, v = .pointer (some ⟨t, 0, none⟩) ∧ W.heap[t]? = some (.cells #[.int .i8 0, .int .i64 0, .int .i64 0, .bool false, .slice none 0 0, .bool false, .slice none 0 0, .slice none 0 0] 71 (0, 0)) ∧ z ≤ t
 | _ => True
theorem unrF_stable {g z cp q b} : ∀ ix v w w', unrF g z cp q b ix v w → Kept [] w w' → unrF g z cp q b ix v w':=by
 intro ix v w w' h k
 unfold unrF at h ⊢
 split at h <;> (first | (exact h) | (obtain ⟨a1, d1, h1, h2, h3, h4⟩:=h; exact ⟨a1, d1, h1, h2.kept0 k, h3, lt_kept k _ h4⟩) | (obtain ⟨t, h1, h2, h3⟩:=h; exact ⟨t, h1, k.heap h2 (by simp), h3⟩))
/-- What unrecord gives. -/
def UnrR (w : World) (e : Ending) (w' : World) : Prop:=∃ a1 d1, e = .returned (.agg #[.int .i8 0, .int .i64 0, .int .i64 0, .bool true, .slice none 0 0, .bool false, .slice (some a1) 1 d1, .slice none 0 0]) ∧ SlIs w' 1 (some a1) 1 (Lib.byteCells [97]) ∧ w.heap.size ≤ a1.block ∧ a1.block < w'.heap.size ∧ Kept [] w w'
theorem unrecord_any (g : Nat) (q b : Addr) (cp : Nat) (s n : Int) (w : World) (hf : FieldAt g (.slice (some q) 0 0) (.int .i8 0) (.int .i64 0) (.int .i64 0) (.slice none 0 0) (.slice (some b) 1 cp) s n w) (hsl : SlIs w 1 (some b) 1 (Lib.byteCells [97])) : Calls Tryz.prog 59 #[.pointer (some ⟨g, 0, none⟩)] w (UnrR w):=by
 have HF0:=lh hf
 have HS0:=lh hsl
 clear hf hsl
 go_enter Tryz.func59, Tryz.ntmps59
 go_wp2
 obtain ⟨W3, hW3⟩ : ∃ W3, w.alloc (.cells #[.int .i8 0, .int .i64 0, .int .i64 0, .bool false, .slice none 0 0, .bool false, .slice none 0 0, .slice none 0 0] 71) = W3:=⟨_, rfl⟩
 have hk3 : Kept [] w W3:=by rw [← hW3]; exact (Kept.refl [] w).alloc _
 have hrow : W3.heap[w.heap.size]? = some (.cells #[.int .i8 0, .int .i64 0, .int .i64 0, .bool false, .slice none 0 0, .bool false, .slice none 0 0, .slice none 0 0] 71 (0, 0)):=by rw [← hW3]; exact heap_alloc_new w _
 have hs3 : W3.heap.size = w.heap.size + 1:=by rw [← hW3, alloc_size]
 rw [hW3]
 obtain ⟨r, hr⟩ : ∃ r, w.heap.size = r:=⟨_, rfl⟩
 obtain ⟨z, hz⟩ : ∃ z, W3.heap.size = z:=⟨_, rfl⟩
 rw [hr] at hrow ⊢
 have HZ:=lh hz
 have HRZ : Hid (z = r + 1):=lh (by omega)
 have HR0:=lh hr
 have HROW:=lh hrow
 have HF:=lh (HF0.out.keep hk3 (by simp))
 have HSB:=lh (HS0.out.kept0 hk3)
 have HK3:=lh hk3
 clear hW3 hk3 hrow hs3 hr hz HF0 HS0
 refine wp_region_facts' 25 (Kept []) (unrF g z cp q b) mixed (by kernel_rfl) (Kept.refl _ _).drew (fun _ _ _ h k => h.trans k (fun x hx => .inl hx)) unrF_stable ?_ ?_
 ·refine ⟨?_, ?_, ?_, ?_, ?_, ?_, ?_, ?_, ?_, ?_, ?_, ?_, ?_, ?_, ?_, ?_, ?_, ?_, ?_, ?_, ?_, ?_, ?_, ?_, ?_, trivial⟩
  all_goals go_light
  all_goals intro a W hR hs hd
  all_goals have p0 : a.tmps[0]? = some (.pointer (some ⟨g, 0, none⟩)):=hs.2.2 0 (by decide)
  all_goals have hRr : Kept [] W W:=Kept.refl _ _
  all_goals have m_g_1 : W.cell? ⟨g, 1, none⟩ = some (.int .i8 0):=hR.cell (HF.out.cell 1 _ rfl) (by simp)
  all_goals have m_g_2 : W.cell? ⟨g, 2, none⟩ = some (.int .i64 0):=hR.cell (HF.out.cell 2 _ rfl) (by simp)
  all_goals have m_g_3 : W.cell? ⟨g, 3, none⟩ = some (.int .i64 0):=hR.cell (HF.out.cell 3 _ rfl) (by simp)
  all_goals have m_g_4 : W.cell? ⟨g, 4, none⟩ = some (.slice none 0 0):=hR.cell (HF.out.cell 4 _ rfl) (by simp)
  all_goals have m_g_5 : W.cell? ⟨g, 5, none⟩ = some (.slice (some b) 1 cp):=hR.cell (HF.out.cell 5 _ rfl) (by simp)
  ·refine ov W (.pointer (some ⟨g, 0, none⟩)) ?_ (.mk hRr rfl rfl)
   simp [go_sem, p0]
  ·have q0 : _ = _:=hd.1 rfl
   refine ov W (.pointer (some ⟨g, 0, none⟩)) ?_ (.mk hRr rfl rfl)
   simp [go_sem, q0]
  ·have q1 : _ = _:=hd.1 rfl
   refine ov W (.pointer (some ⟨g, 1, none⟩)) ?_ (.mk hRr rfl rfl)
   simp [go_sem, q1]
  ·have q2 : _ = _:=hd.1 rfl
   refine ov W (.int .i8 0) ?_ (.mk hRr rfl rfl)
   simp [go_sem, q2, m_g_1]
  ·refine ov W (.pointer (some ⟨g, 0, none⟩)) ?_ (.mk hRr rfl rfl)
   simp [go_sem, p0]
  ·have q4 : _ = _:=hd.1 rfl
   refine ov W (.pointer (some ⟨g, 0, none⟩)) ?_ (.mk hRr rfl rfl)
   simp [go_sem, q4]
  ·have q5 : _ = _:=hd.1 rfl
   refine ov W (.pointer (some ⟨g, 2, none⟩)) ?_ (.mk hRr rfl rfl)
   simp [go_sem, q5]
  ·have q6 : _ = _:=hd.1 rfl
   refine ov W (.int .i64 0) ?_ (.mk hRr rfl rfl)
   simp [go_sem, q6, m_g_2]
  ·have q7 : _ = _:=hd.1 rfl
   refine ow_call (w':=W) (f:=83) (args:=#[.int .i64 0]) (by simp [go_sem, q7]) (millis0 W) ?_
   rintro e w' ⟨rfl, hk1⟩
   exact ⟨_, rfl, .mk hk1 rfl rfl⟩
  ·refine ov W (.pointer (some ⟨g, 0, none⟩)) ?_ (.mk hRr rfl rfl)
   simp [go_sem, p0]
  ·have q9 : _ = _:=hd.1 rfl
   refine ov W (.pointer (some ⟨g, 0, none⟩)) ?_ (.mk hRr rfl rfl)
   simp [go_sem, q9]
  ·have q10 : _ = _:=hd.1 rfl
   refine ov W (.pointer (some ⟨g, 3, none⟩)) ?_ (.mk hRr rfl rfl)
   simp [go_sem, q10]
  ·have q11 : _ = _:=hd.1 rfl
   refine ov W (.int .i64 0) ?_ (.mk hRr rfl rfl)
   simp [go_sem, q11, m_g_3]
  ·refine ov W (.pointer (some ⟨g, 0, none⟩)) ?_ (.mk hRr rfl rfl)
   simp [go_sem, p0]
  ·have q13 : _ = _:=hd.1 rfl
   refine ov W (.pointer (some ⟨g, 0, none⟩)) ?_ (.mk hRr rfl rfl)
   simp [go_sem, q13]
  ·have q14 : _ = _:=hd.1 rfl
   refine ov W (.pointer (some ⟨g, 4, none⟩)) ?_ (.mk hRr rfl rfl)
   simp [go_sem, q14]
  ·have q15 : _ = _:=hd.1 rfl
   refine ov W (.slice none 0 0) ?_ (.mk hRr rfl rfl)
   simp [go_sem, q15, m_g_4]
  ·have q16 : _ = _:=hd.1 rfl
   refine ow_call (w':=W) (f:=84) (args:=#[.slice none 0 0]) (by simp [go_sem, q16]) (plain_nil W) ?_
   rintro e w' ⟨rfl, hk1⟩
   exact ⟨_, rfl, .mk hk1 rfl rfl⟩
  ·refine ov W (.pointer (some ⟨g, 0, none⟩)) ?_ (.mk hRr rfl rfl)
   simp [go_sem, p0]
  ·have q18 : _ = _:=hd.1 rfl
   refine ov W (.pointer (some ⟨g, 0, none⟩)) ?_ (.mk hRr rfl rfl)
   simp [go_sem, q18]
  ·have q19 : _ = _:=hd.1 rfl
   refine ov W (.pointer (some ⟨g, 5, none⟩)) ?_ (.mk hRr rfl rfl)
   simp [go_sem, q19]
  ·have q20 : _ = _:=hd.1 rfl
   refine ov W (.slice (some b) 1 cp) ?_ (.mk hRr rfl rfl)
   simp [go_sem, q20, m_g_5]
  ·have q21 : _ = _:=hd.1 rfl
   refine ow_call (w':=W) (f:=84) (args:=#[.slice (some b) 1 cp]) (by simp [go_sem, q21]) (plain_some W b 1 cp [97] rfl (by omega) (HSB.out.kept0 hR)) ?_
   rintro e w' ⟨a1, d1, rfl, k1, k2, k3, hk1⟩
   exact ⟨_, rfl, .mk hk1 ⟨a1, d1, rfl, k1, by have h8:=hR.size; have h7:=HZ.out; omega, k3⟩ rfl⟩
  ·have q3 : _ = _:=hd.1 rfl
   have q8 : _ = _:=hd.2.1 rfl
   have q12 : _ = _:=hd.2.2.1 rfl
   have q17 : _ = _:=hd.2.2.2.1 rfl
   have q22:=hd.2.2.2.2.1 rfl
   obtain ⟨a1, d1, q22, k1, k2, k3⟩:=q22
   change _ = _ at q22
   refine ov W (.agg #[.int .i8 0, .int .i64 0, .int .i64 0, .bool true, .slice none 0 0, .bool false, .slice (some a1) 1 d1, .slice none 0 0]) ?_ (.mk hRr ⟨a1, d1, rfl, k1, k2, k3⟩ rfl)
   simp [go_sem, q3, q8, q12, q17, q22]
  ·refine ow_value (w':=W.alloc (.cells #[.int .i8 0, .int .i64 0, .int .i64 0, .bool false, .slice none 0 0, .bool false, .slice none 0 0, .slice none 0 0] 71)) (v:=.pointer (some ⟨W.heap.size, 0, none⟩)) ?_ (.mk ((Kept.refl [] W).alloc _) ⟨_, rfl, heap_alloc_new W _, by have h8:=hR.size; have h7:=HZ.out; omega⟩ rfl)
   simp [go_sem]
 ·intro f W1 hR hf
  obtain ⟨f0, f1, f2, f3, f4, f5, f6, f7, f8, f9, f10, f11, f12, f13, f14, f15, f16, f17, f18, f19, f20, f21, f22, f23, f24, -⟩:=hf
  change f 6 = _ at f0
  change f 7 = _ at f1
  change f 8 = _ at f2
  change f 9 = _ at f3
  change f 10 = _ at f4
  change f 11 = _ at f5
  change f 12 = _ at f6
  change f 13 = _ at f7
  change f 14 = _ at f8
  change f 15 = _ at f9
  change f 16 = _ at f10
  change f 17 = _ at f11
  change f 18 = _ at f12
  change f 19 = _ at f13
  change f 20 = _ at f14
  change f 21 = _ at f15
  change f 22 = _ at f16
  change f 23 = _ at f17
  change f 24 = _ at f18
  change f 25 = _ at f19
  change f 26 = _ at f20
  change f 27 = _ at f21
  change ∃ a1 d1, (f 28) = .agg #[.bool false, .slice (some a1) 1 d1] ∧ SlIs W1 1 (some a1) 1 (Lib.byteCells [97]) ∧ z ≤ a1.block ∧ a1.block < W1.heap.size at f22
  obtain ⟨x22, g22⟩ : ∃ x, f 28 = x:=⟨_, rfl⟩
  rw [g22] at f22
  change ∃ a1 d1, (f 29) = .agg #[.int .i8 0, .int .i64 0, .int .i64 0, .bool true, .slice none 0 0, .bool false, .slice (some a1) 1 d1, .slice none 0 0] ∧ SlIs W1 1 (some a1) 1 (Lib.byteCells [97]) ∧ z ≤ a1.block ∧ a1.block < W1.heap.size at f23
  obtain ⟨x23, g23⟩ : ∃ x, f 29 = x:=⟨_, rfl⟩
  rw [g23] at f23
  change ∃ t, (f 3) = .pointer (some ⟨t, 0, none⟩) ∧ W1.heap[t]? = some (.cells #[.int .i8 0, .int .i64 0, .int .i64 0, .bool false, .slice none 0 0, .bool false, .slice none 0 0, .slice none 0 0] 71 (0, 0)) ∧ z ≤ t at f24
  obtain ⟨x24, g24⟩ : ∃ x, f 3 = x:=⟨_, rfl⟩
  rw [g24] at f24
  simp only [headDsts, List.take_succ_cons, List.take_zero, List.filterMap_cons, List.filterMap_nil, setAll, f0, f1, f2, f3, f4, f5, f6, f7, f8, f9, f10, f11, f12, f13, f14, f15, f16, f17, f18, f19, f20, f21, g22, g23, g24, List.setIfInBounds_toArray, List.set_cons_succ, List.set_cons_zero, List.drop_succ_cons, List.drop_zero]
  clear f0 f1 f2 f3 f4 f5 f6 f7 f8 f9 f10 f11 f12 f13 f14 f15 f16 f17 f18 f19 f20 f21 g22 g23 g24 f
  obtain ⟨a1, d1, rfl, k1, k2, k3⟩:=f23
  obtain ⟨t, rfl, ht, hzt⟩:=f24
  have HSA:=lh k1
  have HA2:=lh k2
  have HA3:=lh k3
  have HT:=lh ht
  have HZT:=lh hzt
  have HKW:=lh (HK3.out.trans0 hR)
  have HROW1:=lh (hR.heap HROW.out (by simp))
  have HF1:=lh (HF.out.keep hR (by simp))
  have HGT : Hid (g < z):=lh (by have h7:=HF.out.lt; have h8:=HZ.out; omega)
  have HTA : Hid (a1.block ≠ t):=lh (fun e => by
   obtain ⟨bb, off, he, hcc⟩:=k1.2.2 (by omega)
   cases he
   have h0:=hcc 0 _ rfl
   have e2 : bb = t:=e
   rw [e2] at h0
   match off, h0 with
   | 0, h0 => simp [World.cell?, ht] at h0
   | 1, h0 => simp [World.cell?, ht] at h0
   | 2, h0 => simp [World.cell?, ht] at h0
   | 3, h0 => simp [World.cell?, ht] at h0
   | 4, h0 => simp [World.cell?, ht] at h0
   | 5, h0 => simp [World.cell?, ht] at h0
   | 6, h0 => simp [World.cell?, ht] at h0
   | 7, h0 => simp [World.cell?, ht] at h0
   | k + 8, h0 => simp [World.cell?, ht] at h0)
  clear f22 k1 k2 k3 ht hzt hR
  go_wp2_with (first
   | (refine wl_store_struct rfl 71 _ _ rfl (cs:=#[.int .i8 0, .int .i64 0, .int .i64 0, .bool true, .slice none 0 0, .bool false, .slice (some a1) 1 d1, .slice none 0 0]) rfl t rfl rfl 71 _ HT.out rfl (by simp [Value.oneCell']) ?_; have HT2:=lh (setRow_heap W1 t _ #[.int .i8 0, .int .i64 0, .int .i64 0, .bool true, .slice none 0 0, .bool false, .slice (some a1) 1 d1, .slice none 0 0] 71 _ HT.out); have hkt : Kept [t] W1 (W1.setRow t #[.int .i8 0, .int .i64 0, .int .i64 0, .bool true, .slice none 0 0, .bool false, .slice (some a1) 1 d1, .slice none 0 0]):=((Kept.refl _ _).setRow (.inl (by simp)) _); have HKT:=lh hkt; have hF2:=HF1.out.keep hkt (by have:=HGT.out; have:=HZT.out; simp; omega); have hc0:=hF2.cell 0 _ rfl; have HROW2:=lh (hkt.heap HROW1.out (by have:=HRZ.out; have:=HZT.out; simp; omega)); clear hkt hF2))
  refine wp_loop_once ?_
  go_wp2_with (first
   | (refine wl_load_struct rfl 71 _ rfl Tryz.underlying71 rfl rfl t 0 rfl [.int .i8 0, .int .i64 0, .int .i64 0, .bool true, .slice none 0 0, .bool false, .slice (some a1) 1 d1, .slice none 0 0] rfl (fun j v hv => by have h9:=HT2.out; simp only [World.cell?, h9, Nat.zero_add]; simpa using hv) ?_)
   | (refine wl_store_struct rfl 71 _ _ rfl (cs:=#[.int .i8 0, .int .i64 0, .int .i64 0, .bool true, .slice none 0 0, .bool false, .slice (some a1) 1 d1, .slice none 0 0]) rfl r rfl rfl 71 _ HROW2.out rfl (by simp [Value.oneCell']) ?_))
  have hrow3:=setRow_heap (W1.setRow t #[.int .i8 0, .int .i64 0, .int .i64 0, .bool true, .slice none 0 0, .bool false, .slice (some a1) 1 d1, .slice none 0 0]) r _ #[.int .i8 0, .int .i64 0, .int .i64 0, .bool true, .slice none 0 0, .bool false, .slice (some a1) 1 d1, .slice none 0 0] 71 _ HROW2.out
  have hkr : Kept [t, r] W1 ((W1.setRow t #[.int .i8 0, .int .i64 0, .int .i64 0, .bool true, .slice none 0 0, .bool false, .slice (some a1) 1 d1, .slice none 0 0]).setRow r #[.int .i8 0, .int .i64 0, .int .i64 0, .bool true, .slice none 0 0, .bool false, .slice (some a1) 1 d1, .slice none 0 0]):=(HKT.out.mono (by simp)).trans (((Kept.refl [r] _).setRow (.inl (by simp)) _).mono (by simp)) (fun x hx => .inl hx)
  have hz1:=HZ.out
  have hrz:=HRZ.out
  have hzt:=HZT.out
  have ha2:=HA2.out
  have ha3:=HA3.out
  have hr0:=HR0.out
  have hsz:=hkr.size
  refine bodyPost_ret (results_cell_row rfl _ _ r 71 #[.int .i8 0, .int .i64 0, .int .i64 0, .bool true, .slice none 0 0, .bool false, .slice (some a1) 1 d1, .slice none 0 0] (0, 0) _ rfl hrow3 Tryz.underlying71 rfl rfl) rfl ⟨a1, d1, rfl, HSA.out.kept hkr (fun a e => by cases e; have:=HTA.out; simp; omega), by omega, by omega, HKW.out.trans hkr (fun x hx => .inr (by simp at hx; omega))⟩
theorem results_cell_tmp2 {fn : Func} {p u1 u2 : Tmp} {ty : TypeId} (h : fn.results = #[.cell p ty, .tmp u1, .tmp u2]) (tmps : Array Value) (w : World) (g : Nat) (cs : Array Value)
  (hp : tmps.getD p undef = .pointer (some ⟨g, 0, none⟩)) (hl : (loadVar ty ⟨g, 0, none⟩).run Tryz.prog w = .ok (.agg cs) w) :
  (results fn tmps).run Tryz.prog w = .ok (.tuple #[.agg cs, tmps.getD u1 undef, tmps.getD u2 undef]) w:=by
 have hp' : tmps[p]?.getD undef = .pointer (some ⟨g, 0, none⟩):=by simpa using hp
 simp [results, h, hp', asAddr, Result.andThen, hl]
/-- What RecordRead gives. -/
def RecReadR (w : World) (e : Ending) (w' : World) : Prop:=∃ a1 d1, e = .returned (.tuple #[.agg #[.int .i8 0, .int .i64 0, .int .i64 0, .bool true, .slice none 0 0, .bool false, .slice (some a1) 1 d1, .slice none 0 0], .int .i64 8, .bool true]) ∧ SlIs w' 1 (some a1) 1 (Lib.byteCells [97]) ∧ Kept [] w w'
theorem recordRead_any (w : World) (A : Option Addr) (c : Nat) (hsl : SlIs w 1 A 8 (Lib.byteCells [14, 0, 0, 0, 1, 2, 97, 0])) (hAl : ∀ a, A = some a → a.block < w.heap.size) : Calls Tryz.prog 30 #[.slice A 8 c] w (RecReadR w):=by
 have HSL:=lh hsl
 have HAL:=lh hAl
 clear hsl hAl
 obtain ⟨g, hg⟩ : ∃ g, w.heap.size + 1 = g:=⟨_, rfl⟩
 have hrd : Calls Tryz.prog 32 #[.slice A 8 c, .iface 113 (.pointer (some ⟨g, 0, none⟩))] ((w.alloc (.cells #[.int .i8 0, .int .i64 0, .int .i64 0, .bool false, .slice none 0 0, .bool false, .slice none 0 0, .slice none 0 0] 71)).alloc (.cells #[.slice none 0 0, .int .i8 0, .int .i64 0, .int .i64 0, .slice none 0 0, .slice none 0 0, .int .i64 0, .int .i64 0] 120)) (fun e w' => e = .returned (.tuple #[.int .i64 8, .bool true]) ∧ GotRec ((w.alloc (.cells #[.int .i8 0, .int .i64 0, .int .i64 0, .bool false, .slice none 0 0, .bool false, .slice none 0 0, .slice none 0 0] 71)).alloc (.cells #[.slice none 0 0, .int .i8 0, .int .i64 0, .int .i64 0, .slice none 0 0, .slice none 0 0, .int .i64 0, .int .i64 0] 120)).heap.size g w' ∧ Kept [g] ((w.alloc (.cells #[.int .i8 0, .int .i64 0, .int .i64 0, .bool false, .slice none 0 0, .bool false, .slice none 0 0, .slice none 0 0] 71)).alloc (.cells #[.slice none 0 0, .int .i8 0, .int .i64 0, .int .i64 0, .slice none 0 0, .slice none 0 0, .int .i64 0, .int .i64 0] 120)) w') :=
  read32 g A c _ (HSL.out.kept0 (((Kept.refl [] w).alloc _).alloc _)) (fun a e => by have:=HAL.out a e; omega) (by
   have h1:=heap_alloc_new (w.alloc (.cells #[.int .i8 0, .int .i64 0, .int .i64 0, .bool false, .slice none 0 0, .bool false, .slice none 0 0, .slice none 0 0] 71)) (.cells #[.slice none 0 0, .int .i8 0, .int .i64 0, .int .i64 0, .slice none 0 0, .slice none 0 0, .int .i64 0, .int .i64 0] 120)
   rw [alloc_size, hg] at h1
   exact h1)
 have HRD:=lh hrd
 have HG:=lh hg
 clear hrd hg
 go_enter Tryz.func30, Tryz.ntmps30
 go_wp2_with (first
  | (rw [HG.out])
  | ((with_reducible refine HRD.out.mono ?_); rintro e w2 ⟨rfl, ⟨q, b, cp, h1, h2, h3, h4⟩, hk⟩; have HROW:=lh (hk.heap (((Kept.refl [] _).alloc (.cells #[.slice none 0 0, .int .i8 0, .int .i64 0, .int .i64 0, .slice none 0 0, .slice none 0 0, .int .i64 0, .int .i64 0] 120)).heap (heap_alloc_new w (.cells #[.int .i8 0, .int .i64 0, .int .i64 0, .bool false, .slice none 0 0, .bool false, .slice none 0 0, .slice none 0 0] 71)) (by simp)) (by have:=HG.out; simp; omega)); have HK2:=lh hk; have HUN:=lh (unrecord_any g q b cp 0 7 w2 h1 h2); clear h1 h2 h3 h4 hk)
  | ((with_reducible refine HUN.out.mono ?_); rintro e w3 ⟨a1, d1, rfl, h1, h2, h3, hk⟩; have HS3:=lh h1; have HA3:=lh h2; have HROW3:=lh (hk.heap HROW.out (by simp)); have HK3:=lh hk; clear h1 h2 h3 hk)
  | (refine wl_store_struct rfl 71 _ _ rfl (cs:=#[.int .i8 0, .int .i64 0, .int .i64 0, .bool true, .slice none 0 0, .bool false, .slice (some a1) 1 d1, .slice none 0 0]) rfl w.heap.size rfl rfl 71 _ HROW3.out rfl (by simp [Value.oneCell']) ?_))
 have hrow3:=setRow_heap w3 w.heap.size _ #[.int .i8 0, .int .i64 0, .int .i64 0, .bool true, .slice none 0 0, .bool false, .slice (some a1) 1 d1, .slice none 0 0] 71 _ HROW3.out
 have hkr : Kept [w.heap.size] w3 (w3.setRow w.heap.size #[.int .i8 0, .int .i64 0, .int .i64 0, .bool true, .slice none 0 0, .bool false, .slice (some a1) 1 d1, .slice none 0 0]):=(Kept.refl _ _).setRow (.inl (by simp)) _
 have hg:=HG.out
 have hk2s:=HK2.out.size
 rw [alloc_size, alloc_size] at hk2s
 have ha3:=HA3.out
 refine bodyPost_ret (results_cell_tmp2 rfl _ _ w.heap.size #[.int .i8 0, .int .i64 0, .int .i64 0, .bool true, .slice none 0 0, .bool false, .slice (some a1) 1 d1, .slice none 0 0] rfl (run_loadVar_row _ w.heap.size 71 71 _ (0, 0) _ hrow3 Tryz.underlying71 rfl rfl)) rfl ⟨a1, d1, rfl, HS3.out.kept hkr (fun a e => by cases e; simp; omega), ((((((Kept.refl [] w).alloc _).alloc _).trans HK2.out (fun x hx => .inr (by simp at hx; omega)))).trans0 HK3.out).trans hkr (fun x hx => .inr (by simp at hx; omega))⟩
end Go.Proofs.YtmpjikihnmagoaaGreatDoor
/-
 recordsAlive (10) says yes. Conditions: none.
-/
namespace Go.Proofs.YtmpjikihnmagoaaGreatDoor
open Go.RowKit
theorem conv97 (w : World) (n c : Nat) : (convert 34 34 (.slice (some ⟨w.heap.size, 0, none⟩) n c)).run Tryz.prog (w.alloc (.cells #[.int .u8 97] 5)) = .ok (.slice (some ⟨w.heap.size, 0, none⟩) n c) (w.alloc (.cells #[.int .u8 97] 5 (1, 2))):=Lib.run_convert_bytes_const (P:=Tryz.prog) w 34 5 #[.int .u8 97] n c Tryz.underlying34 Tryz.underlying5
theorem one_sl3 (w : World) (v : Value) (e : TypeId) (fr : Nat × Nat) {n : Nat} (h : w.heap.size = n) : SlIs (w.alloc (.cells #[v] e fr)) 1 (some ⟨n, 0, none⟩) 1 [v]:=by
 subst h
 refine ⟨rfl, by omega, fun _ => ⟨_, _, rfl, fun i u hu => ?_⟩⟩
 match i, hu with
 | 0, hu =>
  have : v = u:=by simpa using hu
  subst this
  have h1:=heap_alloc_new w (.cells #[v] e fr)
  rw [Nat.zero_add]
  unfold World.cell?
  rw [h1]
  rfl
theorem recordsAlive_any (w : World) : Calls Tryz.prog 10 #[] w (fun e w' => e = .returned (.bool true) ∧ Kept [] w w'):=by
 have HW1:=lh (recordWrite_any (w.alloc (.cells #[.int .u8 97] 5 (1, 2))) ⟨w.heap.size, 0, none⟩ 1 (one_sl3 w (.int .u8 97) 5 (1, 2) rfl))
 have hcvv:=conv97 w
 go_enter Tryz.func10, Tryz.ntmps10
 go_wp2_with (first
  | ((with_reducible refine HW1.out.mono ?_); rintro e w2 ⟨a, c, rfl, h1, h2, h3, h4, hk⟩; have HR:=lh (recordRead_any w2 (some a) c h1 (fun a' e => by cases e; exact h3)); have HK2:=lh (((Kept.refl [] w).alloc _).trans0 hk); clear h1 h2 h3 h4 hk)
  | ((with_reducible refine HR.out.mono ?_); rintro e w3 ⟨a1, d1, rfl, h1, hk⟩; have HS3:=lh h1; have HK3:=lh (HK2.out.trans0 hk); clear h1 hk)
  | (refine wl_store_struct rfl 71 _ _ rfl (cs:=#[.int .i8 0, .int .i64 0, .int .i64 0, .bool true, .slice none 0 0, .bool false, .slice (some a1) 1 d1, .slice none 0 0]) rfl w3.heap.size rfl rfl 71 _ (heap_alloc_new w3 _) rfl (by simp [Value.oneCell']) ?_; rw [World.setRow_alloc_new]; have hcv2:=(by have h9:=conv97 (w3.alloc (.cells #[.int .i8 0, .int .i64 0, .int .i64 0, .bool true, .slice none 0 0, .bool false, .slice (some a1) 1 d1, .slice none 0 0] 71)) 1 1; rw [alloc_size] at h9; exact h9 : (convert 34 34 (.slice (some ⟨w3.heap.size + 1, 0, none⟩) 1 1)).run Tryz.prog ((w3.alloc (.cells #[.int .i8 0, .int .i64 0, .int .i64 0, .bool true, .slice none 0 0, .bool false, .slice (some a1) 1 d1, .slice none 0 0] 71)).alloc (.cells #[.int .u8 97] 5)) = .ok (.slice (some ⟨w3.heap.size + 1, 0, none⟩) 1 1) ((w3.alloc (.cells #[.int .i8 0, .int .i64 0, .int .i64 0, .bool true, .slice none 0 0, .bool false, .slice (some a1) 1 d1, .slice none 0 0] 71)).alloc (.cells #[.int .u8 97] 5 (1, 2)))); have HMW:=lh (messageWrite_any ((w3.alloc (.cells #[.int .i8 0, .int .i64 0, .int .i64 0, .bool true, .slice none 0 0, .bool false, .slice (some a1) 1 d1, .slice none 0 0] 71)).alloc (.cells #[.int .u8 97] 5 (1, 2))) ⟨w3.heap.size + 1, 0, none⟩ 1 (one_sl3 (w3.alloc (.cells #[.int .i8 0, .int .i64 0, .int .i64 0, .bool true, .slice none 0 0, .bool false, .slice (some a1) 1 d1, .slice none 0 0] 71)) (.int .u8 97) 5 (1, 2) (alloc_size _ _))); have HKA:=lh (((Kept.refl [] w3).alloc (.cells #[.int .i8 0, .int .i64 0, .int .i64 0, .bool true, .slice none 0 0, .bool false, .slice (some a1) 1 d1, .slice none 0 0] 71)).alloc (.cells #[.int .u8 97] 5 (1, 2))))
  | ((with_reducible refine HMW.out.mono ?_); rintro e w5 ⟨b, c5, rfl, h1, h2, h3, h4, hk⟩; have hrow:=(((Kept.refl [] (w3.alloc (.cells #[.int .i8 0, .int .i64 0, .int .i64 0, .bool true, .slice none 0 0, .bool false, .slice (some a1) 1 d1, .slice none 0 0] 71))).alloc (.cells #[.int .u8 97] 5 (1, 2))).trans0 hk).heap (heap_alloc_new w3 _) (by simp); have hc3 : w5.cell? ⟨w3.heap.size, 3, none⟩ = some (.bool true):=(by simp [World.cell?, hrow]); have hc6 : w5.cell? ⟨w3.heap.size, 6, none⟩ = some (.slice (some a1) 1 d1):=(by simp [World.cell?, hrow]); have hcv:=conv_sl (c:=d1) (HS3.out.kept0 (HKA.out.trans0 hk)) rfl; have HK5:=lh ((HK3.out.trans0 HKA.out).trans0 hk); clear h1 h2 h3 h4 hk hrow))
 go_ret
 exact ⟨rfl, HK5.out⟩
end Go.Proofs.YtmpjikihnmagoaaGreatDoor
