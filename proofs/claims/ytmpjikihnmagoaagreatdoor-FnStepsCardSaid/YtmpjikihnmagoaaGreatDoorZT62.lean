/-
  What encode (92) and ZZEncode (81) write, whatever is encoded; the closure of write (80). Conditions: the encoder's own method, by the counting and by the writing coder.
-/
import Derived.Test.YtmpjikihnmagoaaGreatDoorZT61
import Derived.Test.YtmpjikihnmagoaaGreatDoorZT35
import Derived.Test.YtmpjikihnmagoaaGreatDoorZT21
import Derived.Laws.OwnMore
set_option maxRecDepth 100000
set_option maxHeartbeats 3200000
namespace Go.Proofs.YtmpjikihnmagoaaGreatDoor
open Go.RowKit
theorem flexEnc (Tp Te : TypeId) (vp ve : Value) (w : World) (hta : ∀ W, (Instr.typeAssert (.iface Te ve) 243 253 true).run Tryz.prog W = .ok (.tuple #[.nilIface, .bool false]) W) : Calls Tryz.prog 94 #[.iface Tp vp, .iface Te ve] w (fun e w' => e = .returned (.iface Tp vp) ∧ Kept [] w w'):=by
 go_enter Tryz.func94, Tryz.ntmps94
 go_wp2
 go_ret
 exact ⟨rfl, Kept.refl _ _⟩
theorem mk_row34z (n : Nat) (hn : n ≤ 1000000) : ∃ cs : Array Value, cs.size = n ∧ (∀ j, j < n → cs[j]? = some (.int .u8 0)) ∧ ∀ W : World, (Instr.makeSlice 34 (.int .i64 n) (.int .i64 n)).run Tryz.prog W = .ok (.slice (some ⟨W.heap.size, 0, none⟩) n n) (W.alloc (.cells cs 5 (0, 0))):=by
 have k1 : (Tryz.prog.info? 5).map (fun i => (i.size, i.bytes)) = some (1, 1):=by kernel_rfl
 have k2 : (Tryz.prog.info? 5).bind (fun i => i.zero) = some (.int .u8 0):=by kernel_rfl
 obtain ⟨i, h1⟩ : ∃ i, Tryz.prog.info? 5 = some i:=by
  cases hq : Tryz.prog.info? 5 with
  | none => rw [hq] at k1; cases k1
  | some i => exact ⟨i, rfl⟩
 rw [h1] at k1 k2
 have h2 : i.zero = some (.int .u8 0):=k2
 have h34 : (i.size, i.bytes) = (1, 1):=Option.some.inj k1
 have h3 : i.size = 1:=congrArg Prod.fst h34
 have h4 : i.bytes = 1:=congrArg Prod.snd h34
 refine ⟨madeCells (Value.cells (.int .u8 0)) n, by rw [size_madeCells], fun j hj => ?_, fun W => ?_⟩
 ·have hl : (madeCells (Value.cells (.int .u8 0)) n).toList = List.replicate n (.int .u8 0):=toList_madeCells_one (.int .u8 0) n
  rw [← Array.getElem?_toList, hl, List.getElem?_replicate, if_pos hj]
 ·have hr:=run_makeSlice (P:=Tryz.prog) W 34 5 i _ Tryz.underlying34 h1 h2 .i64 .i64 n n (by omega) (by omega) (by rw [h3]; simp; omega) (by rw [h4]; omega) (by omega)
  rw [h3] at hr
  simp only [Int.toNat_natCast, Nat.mul_one] at hr
  exact hr
theorem nm_encode : "pub-kestrel/pub/sarama.encode" = "pub-kestrel/pub/sarama." ++ "encode":=by kernel_rfl
/-- What encode leaves: the bytes in a row of the call's own. -/
def EncR (N : Nat) (total : List UInt8) (g : Nat) (w : World) (e : Ending) (w' : World) : Prop:=∃ r, e = .returned (.tuple #[.slice (some ⟨r, 0, none⟩) N N, .nilIface]) ∧ w.heap.size ≤ r ∧ r < w'.heap.size ∧ Raw r N total w' ∧ Kept [g] w w'
/-- What is encoded: its method, by the counting and by the writing coder. -/
structure Encs (Te : TypeId) (ve : Value) (g N : Nat) (z4 total : List UInt8) (G1 : World → Prop) (w : World) : Prop where
 ta : ∀ W, (Instr.typeAssert (.iface Te ve) 243 253 true).run Tryz.prog W = .ok (.tuple #[.nilIface, .bool false]) W
 na : ∀ W, (nilAhead 483 Te ve "pub-kestrel/pub/sarama.encode").run Tryz.prog W = .ok (some false) W
 n0 : z4.length ≤ N
 n1 : N ≤ 100000
 z0 : ∀ b ∈ z4, b = 0
 gl : g < w.heap.size
 p : ∀ W p, Kept [] w W → w.heap.size ≤ p → W.heap[p]? = some (.cells #[.slice none 0 0, .int .i64 0] 163 (0, 0)) → Inv Te ve "encode" [.iface 160 (.pointer (some ⟨p, 0, none⟩))] W (fun e w' => e = .returned .nilIface ∧ (∃ st, PrepAt p st N w') ∧ G1 w' ∧ Kept [g, p] W w')
 g1 : ∀ W W' q, w.heap.size ≤ q → G1 W → Kept [q] W W' → G1 W'
 r : ∀ W p r, Kept [g] w W → w.heap.size ≤ p → w.heap.size ≤ r → p ≠ r → G1 W → W.heap[p]? = some (.cells #[.slice (some ⟨r, 0, none⟩) N N, .int .i64 0, .slice none 0 0] 174 (0, 0)) → Raw r N z4 W → Inv Te ve "encode" [.iface 172 (.pointer (some ⟨p, 0, none⟩))] W (fun e w' => e = .returned .nilIface ∧ Raw r N total w' ∧ (∃ k st, w'.heap[p]? = some (.cells #[.slice (some ⟨r, 0, none⟩) N N, k, st] 174 (0, 0))) ∧ Kept [g, p, r] W w')
def en5F (Te : TypeId) (ve : Value) (p : Nat) (ix : Nat) (v : Value) (_ : World) : Prop :=
 match ix with
 | 0 => v = .iface Te ve
 | 1 => v = .iface 160 (.pointer (some ⟨p, 0, none⟩))
 | 2 => v = .iface Te ve
 | 3 => v = .iface 160 (.pointer (some ⟨p, 0, none⟩))
 | 4 => v = .func (.method "pub-kestrel/pub/sarama.encode") #[.iface Te ve] #[]
 | 5 => v = .func (.method "pub-kestrel/pub/sarama.encode") #[.iface Te ve] #[]
 | 6 => v = .iface Te ve
 | _ => True
theorem en5F_stable {Te ve p} : ∀ ix v w w', en5F Te ve p ix v w → Kept [] w w' → en5F Te ve p ix v w':=by
 intro ix v w w' h k
 unfold en5F at h ⊢
 split at h <;> (first | (exact h))
def en11F (Te : TypeId) (ve : Value) (q : Nat) (ix : Nat) (v : Value) (_ : World) : Prop :=
 match ix with
 | 0 => v = .iface Te ve
 | 1 => v = .iface 172 (.pointer (some ⟨q, 0, none⟩))
 | 2 => v = .iface Te ve
 | 3 => v = .iface 172 (.pointer (some ⟨q, 0, none⟩))
 | 4 => v = .func (.method "pub-kestrel/pub/sarama.encode") #[.iface Te ve] #[]
 | 5 => v = .func (.method "pub-kestrel/pub/sarama.encode") #[.iface Te ve] #[]
 | 6 => v = .iface Te ve
 | _ => True
theorem en11F_stable {Te ve q} : ∀ ix v w w', en11F Te ve q ix v w → Kept [] w w' → en11F Te ve q ix v w':=by
 intro ix v w w' h k
 unfold en11F at h ⊢
 split at h <;> (first | (exact h))
theorem encode_any {Te : TypeId} {ve : Value} {g N : Nat} {z4 total : List UInt8} {G1 : World → Prop} (w : World) (hE : Encs Te ve g N z4 total G1 w) : Calls Tryz.prog 92 #[.iface Te ve] w (EncR N total g w):=by
 have HE:=lh hE
 have hn1:=hE.n1
 have hN0 : ¬ (N : Int) < 0:=by omega
 have hN1 : ¬ (104857600 : Int) < (N : Int):=by omega
 have hN2 : ¬ 104857600 < N:=by omega
 obtain ⟨cs, hcs, hcz, hmk⟩:=mk_row34z N (by omega)
 have HCS:=lh hcs
 have HCZ:=lh hcz
 clear hcs hcz hE hn1
 go_enter Tryz.func92, Tryz.ntmps92
 go_wp2
 obtain ⟨W2, hW2⟩ : ∃ W2, (w.alloc (.cells #[.slice none 0 0, .int .i64 0] 163)).alloc (.cells #[.slice none 0 0, .int .i64 0, .slice none 0 0] 174) = W2:=⟨_, rfl⟩
 obtain ⟨p, hp⟩ : ∃ p, w.heap.size = p:=⟨_, rfl⟩
 have hs1 : (w.alloc (.cells #[.slice none 0 0, .int .i64 0] 163)).heap.size = p + 1:=by rw [alloc_size, hp]
 obtain ⟨q, hq⟩ : ∃ q, p + 1 = q:=⟨_, rfl⟩
 have hP0 : W2.heap[p]? = some (.cells #[.slice none 0 0, .int .i64 0] 163 (0, 0)):=by
  rw [← hW2]
  exact ((Kept.refl [] _).alloc _).heap (by rw [← hp]; exact heap_alloc_new w _) (by simp)
 have hQ0 : W2.heap[q]? = some (.cells #[.slice none 0 0, .int .i64 0, .slice none 0 0] 174 (0, 0)):=by
  rw [← hW2, ← hq, ← hs1]
  exact heap_alloc_new _ _
 have hK2 : Kept [] w W2:=by
  rw [← hW2]
  exact ((Kept.refl [] w).alloc _).alloc _
 have hS2 : W2.heap.size = q + 1:=by
  rw [← hW2, alloc_size, hs1, hq]
 rw [hW2]
 (try simp only [hp, hq])
 have HP:=lh hp
 have HQ:=lh hq
 have HP0:=lh hP0
 have HQ0:=lh hQ0
 have HK2:=lh hK2
 have HS2:=lh hS2
 have HGQ : Hid (g < p ∧ p < q):=lh (by have h7:=HE.out.gl; omega)
 clear hp hq hP0 hQ0 hK2 hS2 hs1 hW2
 refine wp_region_facts' 7 (Kept []) (en5F Te ve p) mixed (by kernel_rfl) (Kept.refl _ _).drew (fun _ _ _ h k => h.trans k (fun x hx => .inl hx)) en5F_stable ?_ ?_
 ·refine ⟨?_, ?_, ?_, ?_, ?_, ?_, ?_, trivial⟩
  all_goals go_light
  all_goals intro a W hR hs hd
  all_goals have p0 : a.tmps[0]? = some (.iface Te ve):=hs.2.2 0 (by decide)
  all_goals have p4 : a.tmps[4]? = some (.pointer (some ⟨p, 0, none⟩)):=hs.2.2 4 (by decide)
  all_goals have hRr : Kept [] W W:=Kept.refl _ _
  all_goals have hna_encode:=HE.out.na W
  ·refine ov W (.iface Te ve) ?_ (.mk hRr rfl rfl)
   simp [go_sem, p0]
  ·refine ov W (.iface 160 (.pointer (some ⟨p, 0, none⟩))) ?_ (.mk hRr rfl rfl)
   simp [go_sem, p4]
  ·refine ov W (.iface Te ve) ?_ (.mk hRr rfl rfl)
   simp [go_sem, p0]
  ·have q1 : _ = _:=hd.1 rfl
   have q2 : _ = _:=hd.2.1 rfl
   refine ow_call (w':=W) (f:=94) (args:=#[.iface 160 (.pointer (some ⟨p, 0, none⟩)), .iface Te ve]) (by simp [go_sem, q1, q2]) (flexEnc 160 Te (.pointer (some ⟨p, 0, none⟩)) ve W HE.out.ta) ?_
   rintro e w' ⟨rfl, hk1⟩
   exact ⟨_, rfl, .mk hk1 rfl rfl⟩
  ·have q0 : _ = _:=hd.1 rfl
   refine ov W (.func (.method "pub-kestrel/pub/sarama.encode") #[.iface Te ve] #[]) ?_ (.mk hRr rfl rfl)
   simp [go_sem, q0]
  ·have q4 : _ = _:=hd.1 rfl
   refine ov W (.func (.method "pub-kestrel/pub/sarama.encode") #[.iface Te ve] #[]) ?_ (.mk hRr rfl rfl)
   simp [go_sem, q4, hna_encode]
  ·have q0 : _ = _:=hd.1 rfl
   have q4 : _ = _:=hd.2.1 rfl
   have q5 : _ = _:=hd.2.2.1 rfl
   refine ov W (.iface Te ve) ?_ (.mk hRr rfl rfl)
   simp [go_sem, q0]
 ·intro f V1 hR hf
  obtain ⟨f0, f1, f2, f3, f4, f5, f6, -⟩:=hf
  change f 9 = _ at f0
  change f 10 = _ at f1
  change f 11 = _ at f2
  change f 12 = _ at f3
  change f 13 = _ at f4
  change f 14 = _ at f5
  change f 15 = _ at f6
  simp only [headDsts, List.take_succ_cons, List.take_zero, List.filterMap_cons, List.filterMap_nil, setAll, f0, f1, f2, f3, f4, f5, f6, List.setIfInBounds_toArray, List.set_cons_succ, List.set_cons_zero, List.drop_succ_cons, List.drop_zero]
  clear f0 f1 f2 f3 f4 f5 f6 f
  have HR:=lh hR
  clear hR
  go_wp2_with (refine wl_invoke rfl _ _ _ _ rfl Te ve (by simp [go_sem]) "encode" nm_encode [.iface 160 (.pointer (some ⟨p, 0, none⟩))] (by simp [go_sem]) _ (HE.out.p V1 p (HK2.out.trans0 HR.out) (by have h7:=HP.out; omega) (HR.out.heap HP0.out (by simp))) ?_; rintro e w3 ⟨rfl, ⟨st, hst⟩, hg1, hk3⟩; refine ⟨_, rfl, ?_⟩; have hc1:=hst.cell; have HG1:=lh hg1; have HK3:=lh ((HR.out.mono (T:=[g, p]) (by simp)).trans hk3 (fun x hx => .inl hx)); have hq3:=HK3.out.heap HQ0.out (by have h7:=HGQ.out; simp; omega); have HQ3:=lh hq3; have HQ4 : Hid (((w3.alloc (.cells cs 5 (0, 0))).heap[q]? = some (.cells #[.slice none 0 0, .int .i64 0, .slice none 0 0] 174 (0, 0)))):=lh (((Kept.refl [] w3).alloc _).heap hq3 (by simp)); have hqc : (w3.alloc (.cells cs 5 (0, 0))).cell? ⟨q, 0, none⟩ = some (.slice none 0 0):=(by have h7:=HQ4.out; simp [World.cell?, h7]); have hqf : (w3.alloc (.cells cs 5 (0, 0))).frozen? ⟨q, 0, none⟩ = false:=(by have h7:=HQ4.out; simp [World.frozen?, h7]); clear hst hg1 hk3 hq3)
  obtain ⟨r, hr⟩ : ∃ r, w3.heap.size = r:=⟨_, rfl⟩
  obtain ⟨W4, hW4⟩ : ∃ W4, (w3.alloc (.cells cs 5 (0, 0))).setCell ⟨q, 0, none⟩ (.slice (some ⟨r, 0, none⟩) N N) = W4:=⟨_, rfl⟩
  have hq4 : W4.heap[q]? = some (.cells #[.slice (some ⟨r, 0, none⟩) N N, .int .i64 0, .slice none 0 0] 174 (0, 0)):=by
   rw [← hW4]
   exact heap_setCell_same _ q 0 _ _ _ HQ4.out
  have hqr : q < r:=by rw [← hr]; exact (Array.getElem?_eq_some_iff.1 HQ3.out).1
  have hraw : Raw r N z4 W4:=by
   rw [← hW4]
   refine Raw.keep (w:=w3.alloc (.cells cs 5 (0, 0))) ?_ (kept_set q 0 _ _) (by simp; omega)
   refine ⟨cs, by rw [← hr]; exact heap_alloc_new w3 _, HCS.out, HE.out.n0, fun j b hj => ?_⟩
   have hj2:=(List.getElem?_eq_some_iff.1 hj).1
   have h0:=HE.out.z0 b (List.mem_of_getElem? hj)
   have h9:=HE.out.n0
   rw [HCZ.out j (by omega), h0]
   rfl
  have hk4 : Kept [q] w3 W4:=by
   rw [← hW4]
   exact (((Kept.refl [] w3).alloc _).mono (by simp)).trans (kept_set q 0 _ _) (fun x hx => .inl hx)
  simp only [hr, hW4]
  have HRR : Hid (q < r):=lh hqr
  have HQW:=lh hq4
  have HRAW:=lh hraw
  have HK4:=lh hk4
  have HG4 : Hid (G1 W4):=lh (HE.out.g1 _ _ q (by have h7:=HGQ.out; have h8:=HP.out; omega) HG1.out hk4)
  clear hr hW4 hq4 hraw hk4 hqr hqc hqf hc1 hmk
  refine wp_region_facts' 7 (Kept []) (en11F Te ve q) mixed (by kernel_rfl) (Kept.refl _ _).drew (fun _ _ _ h k => h.trans k (fun x hx => .inl hx)) en11F_stable ?_ ?_
  ·refine ⟨?_, ?_, ?_, ?_, ?_, ?_, ?_, trivial⟩
   all_goals go_light
   all_goals intro a W hR hs hd
   all_goals have p0 : a.tmps[0]? = some (.iface Te ve):=hs.2.2 0 (by decide)
   all_goals have p5 : a.tmps[5]? = some (.pointer (some ⟨q, 0, none⟩)):=hs.2.2 5 (by decide)
   all_goals have hRr : Kept [] W W:=Kept.refl _ _
   all_goals have hna_encode:=HE.out.na W
   ·refine ov W (.iface Te ve) ?_ (.mk hRr rfl rfl)
    simp [go_sem, p0]
   ·refine ov W (.iface 172 (.pointer (some ⟨q, 0, none⟩))) ?_ (.mk hRr rfl rfl)
    simp [go_sem, p5]
   ·refine ov W (.iface Te ve) ?_ (.mk hRr rfl rfl)
    simp [go_sem, p0]
   ·have q1 : _ = _:=hd.1 rfl
    have q2 : _ = _:=hd.2.1 rfl
    refine ow_call (w':=W) (f:=94) (args:=#[.iface 172 (.pointer (some ⟨q, 0, none⟩)), .iface Te ve]) (by simp [go_sem, q1, q2]) (flexEnc 172 Te (.pointer (some ⟨q, 0, none⟩)) ve W HE.out.ta) ?_
    rintro e w' ⟨rfl, hk1⟩
    exact ⟨_, rfl, .mk hk1 rfl rfl⟩
   ·have q0 : _ = _:=hd.1 rfl
    refine ov W (.func (.method "pub-kestrel/pub/sarama.encode") #[.iface Te ve] #[]) ?_ (.mk hRr rfl rfl)
    simp [go_sem, q0]
   ·have q4 : _ = _:=hd.1 rfl
    refine ov W (.func (.method "pub-kestrel/pub/sarama.encode") #[.iface Te ve] #[]) ?_ (.mk hRr rfl rfl)
    simp [go_sem, q4, hna_encode]
   ·have q0 : _ = _:=hd.1 rfl
    have q4 : _ = _:=hd.2.1 rfl
    have q5 : _ = _:=hd.2.2.1 rfl
    refine ov W (.iface Te ve) ?_ (.mk hRr rfl rfl)
    simp [go_sem, q0]
  ·intro f V2 hR hf
   obtain ⟨f0, f1, f2, f3, f4, f5, f6, -⟩:=hf
   change f 34 = _ at f0
   change f 35 = _ at f1
   change f 36 = _ at f2
   change f 37 = _ at f3
   change f 38 = _ at f4
   change f 39 = _ at f5
   change f 40 = _ at f6
   simp only [headDsts, List.take_succ_cons, List.take_zero, List.filterMap_cons, List.filterMap_nil, setAll, f0, f1, f2, f3, f4, f5, f6, List.setIfInBounds_toArray, List.set_cons_succ, List.set_cons_zero, List.drop_succ_cons, List.drop_zero]
   clear f0 f1 f2 f3 f4 f5 f6 f
   have HR2:=lh hR
   have HKG : Hid (Kept [g] w V2):=lh (by
    have h7:=HGQ.out
    have h8:=HP.out
    have h9:=(((HK2.out.mono (T:=[g, p, q]) (by simp)).trans (HK3.out.mono (T:=[g, p, q]) (by simp)) (fun x hx => .inl hx)).trans (HK4.out.mono (T:=[g, p, q]) (by simp)) (fun x hx => .inl hx)).trans (hR.mono (T:=[g, p, q]) (by simp)) (fun x hx => .inl hx)
    exact (Kept.refl [g] w).trans h9 (fun x hx => by simp at hx; simp; omega))
   clear hR
   go_wp2_with (refine wl_invoke rfl _ _ _ _ rfl Te ve (by simp [go_sem]) "encode" nm_encode [.iface 172 (.pointer (some ⟨q, 0, none⟩))] (by simp [go_sem]) _ (HE.out.r V2 q r HKG.out (by have h7:=HGQ.out; have h8:=HP.out; omega) (by have h7:=HGQ.out; have h8:=HP.out; have h9:=HRR.out; omega) (by have h9:=HRR.out; omega) (HE.out.g1 _ _ q (by have h7:=HGQ.out; have h8:=HP.out; omega) HG4.out (HR2.out.mono (by simp))) (HR2.out.heap HQW.out (by simp)) (HRAW.out.keep HR2.out (by simp))) ?_; rintro e w5 ⟨rfl, hraw, ⟨k, st, hq5⟩, hk5⟩; refine ⟨_, rfl, ?_⟩; have hc0 : w5.cell? ⟨q, 0, none⟩ = some (.slice (some ⟨r, 0, none⟩) N N):=(by simp [World.cell?, hq5]); have HRAW5:=lh hraw; have HK5:=lh hk5; clear hraw hq5 hk5)
   refine bodyPost_ret (results_tmp2 rfl _ _ _) rfl ⟨r, rfl, ?_, ?_, HRAW5.out, ?_⟩
   ·have h7:=HGQ.out
    have h8:=HP.out
    have h9:=HRR.out
    omega
   ·obtain ⟨A, h1, -⟩:=HRAW5.out
    exact (Array.getElem?_eq_some_iff.1 h1).1
   ·have h7:=HGQ.out
    have h8:=HP.out
    have h9:=HRR.out
    exact HKG.out.trans (HK5.out) (fun x hx => by simp at hx; simp; omega)
end Go.Proofs.YtmpjikihnmagoaaGreatDoor
/-
 What write (57) writes, whatever is encoded. Conditions: as in T62.
-/
namespace Go.Proofs.YtmpjikihnmagoaaGreatDoor
open Go.RowKit
theorem Encs.mono {Te : TypeId} {ve : Value} {g N : Nat} {z4 total : List UInt8} {G1 : World → Prop} {w w' : World} (h : Encs Te ve g N z4 total G1 w) (k : Kept [] w w') : Encs Te ve g N z4 total G1 w' :=
 ⟨h.ta, h.na, h.n0, h.n1, h.z0, by have:=h.gl; have:=k.size; omega, fun W p hk hp => h.p W p (k.trans0 hk) (by have:=k.size; omega), fun W W' q hq => h.g1 W W' q (by have:=k.size; omega), fun W p r hk hp hr => h.r W p r ((k.mono (by simp)).trans hk (fun x hx => .inl hx)) (by have:=k.size; omega) (by have:=k.size; omega)⟩
theorem zzEncode_any {Te : TypeId} {ve : Value} {g N : Nat} {z4 total : List UInt8} {G1 : World → Prop} (w : World) (hE : Encs Te ve g N z4 total G1 w) (hta : ∀ W, (Instr.typeAssert (.iface Te ve) 20 243 true).run Tryz.prog W = .ok (.tuple #[.iface Te ve, .bool true]) W) : Calls Tryz.prog 81 #[.iface Te ve] w (EncR N total g w):=by
 have HE:=lh (encode_any w hE)
 clear hE
 go_enter Tryz.func81, Tryz.ntmps81
 go_wp2_with ((with_reducible refine HE.out.mono ?_); rintro e w1 ⟨r, rfl, h1, h2, h3, h4⟩; have H1:=lh h1; have H2:=lh h2; have H3:=lh h3; have H4:=lh h4; clear h1 h2 h3 h4)
 exact bodyPost_ret (results_tmp2 rfl _ _ _) rfl ⟨r, rfl, H1.out, H2.out, H3.out, H4.out⟩
/-- What the closure of write leaves. -/
def WrC (N : Nat) (total : List UInt8) (g bo bok : Nat) (w w' : World) : Prop:=(∃ r, w'.heap[bo]? = some (.cells #[.slice (some ⟨r, 0, none⟩) N N] 34 (0, 0)) ∧ w.heap.size ≤ r ∧ Raw r N total w') ∧ w'.heap[bok]? = some (.cells #[.bool true] 4 (0, 0)) ∧ Kept [g, bo, bok] w w'
theorem closure80 {Te : TypeId} {ve : Value} {g N : Nat} {z4 total : List UInt8} {G1 : World → Prop} (bx bo bok : Nat) (w : World) (hE : Encs Te ve g N z4 total G1 w) (hta : ∀ W, (Instr.typeAssert (.iface Te ve) 20 243 true).run Tryz.prog W = .ok (.tuple #[.iface Te ve, .bool true]) W) (hx : w.cell? ⟨bx, 0, none⟩ = some (.iface Te ve)) (ho : w.heap[bo]? = some (.cells #[.slice none 0 0] 34 (0, 0))) (hok : w.heap[bok]? = some (.cells #[.bool false] 4 (0, 0))) (hne : bo ≠ bok) (hgo : bo ≠ g) (hgk : bok ≠ g) : Calls Tryz.prog 80 #[.pointer (some ⟨bx, 0, none⟩), .pointer (some ⟨bo, 0, none⟩), .pointer (some ⟨bok, 0, none⟩)] w (fun e w' => e = .returned (.tuple #[]) ∧ WrC N total g bo bok w w'):=by
 have HE:=lh (zzEncode_any w hE hta)
 have HO:=lh ho
 have HOK:=lh hok
 have HNE:=lh hne
 have HGO:=lh hgo
 have HGK:=lh hgk
 clear hE hta ho hok hne hgo hgk
 go_enter Tryz.func80, Tryz.ntmps80
 go_wp2_with ((with_reducible refine HE.out.mono ?_); rintro e w1 ⟨r, rfl, h1, h2, h3, h4⟩; have H1:=lh h1; have H2:=lh h2; have H3:=lh h3; have H4:=lh h4; have hbo:=h4.heap HO.out (by simpa using HGO.out); have hbk:=h4.heap HOK.out (by simpa using HGK.out); have HBO:=lh hbo; have HBK:=lh hbk; clear h1 h2 h3 h4 hbo hbk)
 refine wp_region_effs' 4 (Kept [bo]) (pcE bo) (pcPre bo (.slice none 0 0) 34) (pcF bo (.slice (some ⟨r, 0, none⟩) N N) 34) mixed (by kernel_rfl) ((Kept.refl _ _).drew) (fun i _ _ _ h k => pcE_R h k) (fun _ _ _ => HBO.out) pcF_stable pcPre_stable ?_ ?_
 ·refine ⟨?_, ?_, ?_, ?_, trivial⟩
  all_goals go_light
  all_goals intro a W hR hpre hs hd
  all_goals have p4 : a.tmps[3]? = some (.slice (some ⟨r, 0, none⟩) N N):=hs.2.2 3 (by decide)
  all_goals have p5 : a.tmps[4]? = some (.nilIface):=hs.2.2 4 (by decide)
  all_goals have p2 : a.tmps[1]? = some (.pointer (some ⟨bo, 0, none⟩)):=hs.2.2 1 (by decide)
  all_goals have hRr : Kept [] W W:=Kept.refl [] W
  ·refine ov W (.slice (some ⟨r, 0, none⟩) N N) ?_ (.mk hRr rfl rfl)
   simp [go_sem, p4]
  ·refine ov W .nilIface ?_ (.mk hRr rfl rfl)
   simp [go_sem, p5]
  ·have q1 : _ = _:=hd.1 rfl
   refine ov W (.bool true) ?_ (.mk hRr rfl rfl)
   simp [go_sem, q1]
  ·have q0 : _ = _:=hd.1 rfl
   have hb:=hpre rfl
   have hc : W.cell? ⟨bo, 0, none⟩ = some (.slice none 0 0):=by simp [World.cell?, hb]
   have hf : W.frozen? ⟨bo, 0, none⟩ = false:=by simp [World.frozen?, hb]
   refine ow_skip (w':=W.setCell ⟨bo, 0, none⟩ (.slice (some ⟨r, 0, none⟩) N N)) (by simp [go_sem, p2, q0, hc, hf]) ?_
   have h5:=heap_setCell_same W bo 0 _ 34 (.slice (some ⟨r, 0, none⟩) N N) hb
   exact ⟨undef, rfl, (Kept.refl _ _).setCell (.inl (by simp)) _, h5, fun _ => h5⟩
 ·intro f' W_2 hR hf
  obtain ⟨f0, f1, f2, f3, -⟩:=hf
  change f' 10 = _ at f0
  change f' 11 = _ at f1
  change f' 12 = _ at f2
  change W_2.heap[bo]? = some (.cells #[.slice (some ⟨r, 0, none⟩) N N] 34 (0, 0)) at f3
  simp only [headDsts, List.take_succ_cons, List.take_zero, List.filterMap_cons, List.filterMap_nil, setAll, f0, f1, f2, List.setIfInBounds_toArray, List.set_cons_succ, List.set_cons_zero, List.drop_succ_cons, List.drop_zero]
  clear f0 f1 f2 f'
  have hbk2:=hR.heap HBK.out (fun hm => HNE.out (List.mem_singleton.1 hm).symm)
  have hcb : W_2.cell? ⟨bok, 0, none⟩ = some (.bool false):=by simp [World.cell?, hbk2]
  have hfb : W_2.frozen? ⟨bok, 0, none⟩ = false:=by simp [World.frozen?, hbk2]
  have h6:=heap_setCell_same W_2 bok 0 _ 4 (.bool true) hbk2
  have h7 : (W_2.setCell ⟨bok, 0, none⟩ (.bool true)).heap[bo]? = some (.cells #[.slice (some ⟨r, 0, none⟩) N N] 34 (0, 0)):=by
   rw [heap_setCell_other _ _ _ _ (by simpa using HNE.out)]
   exact f3
  have hKf : Kept [g, bo, bok] w (W_2.setCell ⟨bok, 0, none⟩ (.bool true)):=((H4.out.mono (by simp)).trans hR (fun x hx => .inl (by rw [List.mem_singleton.1 hx]; simp))).setCell (.inl (by simp)) _
  have H6:=lh h6
  have H7:=lh h7
  have HKF:=lh hKf
  have hob : bo < w.heap.size:=(Array.getElem?_eq_some_iff.1 HO.out).1
  have hokb : bok < w.heap.size:=(Array.getElem?_eq_some_iff.1 HOK.out).1
  have hraw3:=(H3.out.keep hR (by have:=H1.out; simp; omega)).keep ((Kept.refl [bok] W_2).setCell (p:=⟨bok, 0, none⟩) (.inl (by simp)) (.bool true)) (by have:=H1.out; simp; omega)
  have HRAW3:=lh hraw3
  clear hraw3
  clear h6 h7 hKf hbk2 f3 hR hob hokb
  go_wp2
  refine bodyPost_end (results_none rfl _ _ _) rfl ?_
  exact ⟨rfl, ⟨r, H7.out, H1.out, HRAW3.out⟩, H6.out, HKF.out⟩
theorem three_blocks (w : World) (a b c : Obj) : ∃ W, W = (((w.alloc a).alloc b).alloc c) ∧ W.heap.size = w.heap.size + 3 ∧ Kept [] w W ∧ W.heap[w.heap.size]? = some a ∧ W.heap[w.heap.size + 1]? = some b ∧ W.heap[w.heap.size + 2]? = some c :=
 ⟨allocs w [a, b, c], rfl, by rw [allocs_heap]; simp, allocs_kept _ _, allocs_at w _ 0 a rfl, allocs_at w _ 1 b rfl, allocs_at w _ 2 c rfl⟩
/-- What write leaves. -/
def WrR (g : Nat) (f : List UInt8) (N : Nat) (w : World) (e : Ending) (w' : World) : Prop:=∃ a c, e = .returned (.tuple #[.slice (some a) N c, .bool true]) ∧ SlIs w' 1 (some a) N (Lib.byteCells f) ∧ w.heap.size ≤ a.block ∧ a.block < w'.heap.size ∧ N ≤ c ∧ Kept [g] w w'
theorem write57 {Te : TypeId} {ve : Value} {g N : Nat} {z4 total : List UInt8} {G1 : World → Prop} (w : World) (hE : Encs Te ve g N z4 total G1 w) (hta : ∀ W, (Instr.typeAssert (.iface Te ve) 20 243 true).run Tryz.prog W = .ok (.tuple #[.iface Te ve, .bool true]) W) (hNt : total.length = N) : Calls Tryz.prog 57 #[.iface Te ve] w (WrR g total N w):=by
 have hmf : ∀ (fn : Fn) (first cap : Array Value) (w : World), (Instr.makeFunc fn first cap).run Tryz.prog w = .ok (.func fn first cap) w:=fun _ _ _ _ => rfl
 have HGL:=lh hE.gl
 have HFB:=lh hNt
 have HN1:=lh hE.n1
 have HCL0:=lh (fun (W : World) (bx bo bok : Nat) (hk : Kept [] w W) => closure80 bx bo bok W (hE.mono hk) hta)
 clear hE hta hNt
 go_enter Tryz.func57, Tryz.ntmps57
 go_wp2_with fail
 obtain ⟨W5, hW5, hs5, hK5, b0, b1, b2⟩:=three_blocks w (Obj.cells #[Value.iface Te ve] 20) (Obj.cells #[Value.slice none 0 0] 34) (Obj.cells #[Value.bool false] 4)
 rw [← hW5]
 obtain ⟨z, hz⟩ : ∃ z, w.heap.size = z:=⟨_, rfl⟩
 rw [hz] at hs5 b0 b1 b2 ⊢
 have HZ:=lh hz
 clear hW5
 simp only [Nat.add_assoc, Nat.reduceAdd]
 obtain ⟨W6, hW6⟩ : ∃ W6, W6 = W5.alloc (.cells #[.bool false] 4):=⟨_, rfl⟩
 have hK6 : Kept [] W5 W6:=by rw [hW6]; exact (Kept.refl _ _).alloc _
 have hcell : ∀ {k : Nat} {v : Value} {t : TypeId}, W5.heap[k]? = some (.cells #[v] t (0, 0)) → W6.cell? ⟨k, 0, none⟩ = some v:=fun h => by have:=hK6.heap h (by simp); simp [World.cell?, this]
 have hgl:=HGL.out
 have hcl:=HCL0.out W6 z (z + 1) (z + 2) (hK5.trans0 hK6) (hcell b0) (hK6.heap b1 (by simp)) (hK6.heap b2 (by simp)) (by omega) (by omega) (by omega)
 have h6 : W6.heap[z + 3]? = some (.cells #[.bool false] 4 (0, 0)):=by rw [hW6, ← hs5, heap_alloc_new]
 have hcf : ∀ (args : Array Value) (w : World), (callFunc 80 args).run Tryz.prog w = .ok (.enter 80 args) w:=enters_of Tryz.func80 (by kernel_rfl) rfl
 rw [hW6] at hcl
 have hsafe:=safe_any 80 _ W5 _ (fun W => hcf _ W) hcl (fun W' hR => by
  have hk:=hR.2.2
  rw [hs5]
  refine hk.heap ?_ (by simp; omega)
  rw [← hs5, heap_alloc_new])
 refine hsafe.mono ?_
 rintro e w7 ⟨rfl, W', ⟨hb2, hb3, hk⟩, hk7⟩
 rw [hs5] at hk7
 obtain ⟨zz, hb2, hzz, hraw⟩:=hb2
 have hszW6 : (W5.alloc (.cells #[.bool false] 4)).heap.size = z + 4:=by rw [alloc_size, hs5]
 rw [hszW6] at hzz
 have hraw7:=hraw.keep hk7 (by simp; omega)
 have HRAW:=lh hraw7
 clear hraw hraw7
 have hb2':=hk7.heap hb2 (by simp)
 have hb3':=hk7.heap hb3 (by simp)
 rw [← hW6] at hk
 have hkw7 : Kept [g] w w7:=((((hK5.trans0 hK6).mono (T:=[g]) (by simp)).trans hk (fun x hx => by simp at hx ⊢; omega))).trans hk7 (fun x hx => .inr (by simp at hx; omega))
 have HKW:=lh hkw7
 have HB2:=lh hb2'
 have HB3:=lh hb3'
 have c2 : w7.cell? ⟨z + 1, 0, none⟩ = some (.slice (some ⟨zz, 0, none⟩) N N):=by simp [World.cell?, hb2']
 have c3 : w7.cell? ⟨z + 2, 0, none⟩ = some (.bool true):=by simp [World.cell?, hb3']
 have g2 : w7.frozen? ⟨z + 1, 0, none⟩ = false:=by simp [World.frozen?, hb2']
 have g3 : w7.frozen? ⟨z + 2, 0, none⟩ = false:=by simp [World.frozen?, hb3']
 have HSZ7 : Hid (z + 3 ≤ w7.heap.size):=lh (by have:=(Array.getElem?_eq_some_iff.1 hb3').1; omega)
 clear hk hk7 hb2 hb3 hkw7 hcl hsafe b0 b1 b2 hb2' hb3' h6 hcf hW6 hK5 hK6 hcell HCL0 hszW6 hzz hgl
 have hN20 : N ≤ 1000000:=by have h8:=HN1.out; omega
 have HCOPY:=lh (copied_any w7 (some ⟨zz, 0, none⟩) N N total HFB.out hN20 (raw_slis HRAW.out HFB.out hN20))
 go_wp2_with ((with_reducible refine HCOPY.out.mono ?_); rintro e w8 ⟨a, ca, rfl, hsl, hge, hlt, hca, hk8⟩; have HSL:=lh hsl; have HGE:=lh hge; have HLT:=lh hlt; have HCA:=lh hca; have hbb2:=hk8.heap HB2.out (by simp); have hbb3:=hk8.heap HB3.out (by simp); have HBB2:=lh hbb2; have HBB3:=lh hbb3; have HK8:=lh hk8; have cc2 : w8.cell? ⟨z + 1, 0, none⟩ = some (.slice (some ⟨zz, 0, none⟩) N N):=(by simp [World.cell?, hbb2]); have cc3 : w8.cell? ⟨z + 2, 0, none⟩ = some (.bool true):=(by simp [World.cell?, hbb3]); have gg2 : w8.frozen? ⟨z + 1, 0, none⟩ = false:=(by simp [World.frozen?, hbb2]); have gg3 : w8.frozen? ⟨z + 2, 0, none⟩ = false:=(by simp [World.frozen?, hbb3]); clear hsl hge hlt hca hk8 hbb2 hbb3)
 clear c2 c3 g2 g3
 have e4:=heap_setCell_same w8 (z + 1) 0 _ 34 (.slice (some a) N ca) HBB2.out
 have e5 : (w8.setCell ⟨z + 1, 0, none⟩ (.slice (some a) N ca)).heap[z + 2]? = some (.cells #[.bool true] 4 (0, 0)):=by
  rw [heap_setCell_other _ _ _ _ (by simp)]
  exact HBB3.out
 have e5':=heap_setCell_same _ (z + 2) 0 _ 4 (.bool true) e5
 have e4' : ((w8.setCell ⟨z + 1, 0, none⟩ (.slice (some a) N ca)).setCell ⟨z + 2, 0, none⟩ (.bool true)).heap[z + 1]? = some (.cells #[.slice (some a) N ca] 34 (0, 0)):=by
  rw [heap_setCell_other _ _ _ _ (by simp)]
  exact e4
 have hK : Kept [z + 1, z + 2] w8 ((w8.setCell ⟨z + 1, 0, none⟩ (.slice (some a) N ca)).setCell ⟨z + 2, 0, none⟩ (.bool true)):=((Kept.refl _ _).setCell (.inl (by simp)) _).setCell (.inl (by simp)) _
 obtain ⟨w9, hw9⟩ : ∃ w9, (w8.setCell ⟨z + 1, 0, none⟩ (.slice (some a) N ca)).setCell ⟨z + 2, 0, none⟩ (.bool true) = w9:=⟨_, rfl⟩
 rw [hw9] at e4' e5' hK ⊢
 have r4 : w9.cell? ⟨z + 1, 0, none⟩ = some (.slice (some a) N ca):=by simp [World.cell?, e4']
 have r5 : w9.cell? ⟨z + 2, 0, none⟩ = some (.bool true):=by simp [World.cell?, e5']
 clear hw9 e4 e5 e4' e5' hmf
 have hz9:=HZ.out
 have hgl:=HGL.out
 have hkf : Kept [g] w w9:=(HKW.out.trans0 HK8.out).trans hK (fun x hx => .inr (by simp at hx; omega))
 refine bodyPost_ret (v:=.tuple #[.slice (some a) N ca, .bool true]) (by simp [results, Tryz.results57, go_sem, r4, r5]) rfl ?_
 have h8:=HGE.out
 have h7:=HSZ7.out
 have h6:=HLT.out
 have hs9:=hK.size
 have hkws:=HKW.out.size
 refine ⟨a, ca, rfl, HSL.out.kept hK (fun a' e => by cases e; simp; omega), by omega, by omega, HCA.out, hkf⟩
end Go.Proofs.YtmpjikihnmagoaaGreatDoor
/-
 The record and the message of recordsAlive are written (29, 31). Conditions: one byte.
-/
namespace Go.Proofs.YtmpjikihnmagoaaGreatDoor
open Go.RowKit
theorem ta_rec (v : Value) (W : World) : (Instr.typeAssert (.iface 113 v) 243 253 true).run Tryz.prog W = .ok (.tuple #[.nilIface, .bool false]) W:=run_typeAssert_lacksB Tryz.underlying253 (by kernel_rfl) (by kernel_rfl) v 243 W
theorem ta_msg (v : Value) (W : World) : (Instr.typeAssert (.iface 122 v) 243 253 true).run Tryz.prog W = .ok (.tuple #[.nilIface, .bool false]) W:=run_typeAssert_lacksB Tryz.underlying253 (by kernel_rfl) (by kernel_rfl) v 243 W
theorem te_rec (v : Value) (W : World) : (Instr.typeAssert (.iface 113 v) 20 243 true).run Tryz.prog W = .ok (.tuple #[.iface 113 v, .bool true]) W:=by kernel_rfl
theorem te_msg (v : Value) (W : World) : (Instr.typeAssert (.iface 122 v) 20 243 true).run Tryz.prog W = .ok (.tuple #[.iface 122 v, .bool true]) W:=by kernel_rfl
theorem fe_rec (a : Addr) (w : World) : (Go.method 483 113 (.pointer (some a)) "pub-kestrel/pub/sarama.encode").run Tryz.prog w = .ok (147, .pointer (some a)) w:=by kernel_rfl
theorem fea_rec (a : Addr) (w : World) : (nilAhead 483 113 (.pointer (some a)) "pub-kestrel/pub/sarama.encode").run Tryz.prog w = .ok (some false) w:=by kernel_rfl
theorem fe_msg (a : Addr) (w : World) : (Go.method 483 122 (.pointer (some a)) "pub-kestrel/pub/sarama.encode").run Tryz.prog w = .ok (124, .pointer (some a)) w:=by kernel_rfl
theorem fea_msg (a : Addr) (w : World) : (nilAhead 483 122 (.pointer (some a)) "pub-kestrel/pub/sarama.encode").run Tryz.prog w = .ok (some false) w:=by kernel_rfl
theorem encs_rec (g d : Nat) (a : Addr) (w : World) (h : RecAt g a d w) (hag : a.block ≠ g) (hal : a.block < w.heap.size) : Encs 113 (.pointer (some ⟨g, 0, none⟩)) g 8 [0] [14, 0, 0, 0, 1, 2, 97, 0] (FieldAt g (.slice none 0 0) (.int .i8 0) (.int .i64 0) (.int .i64 0) (.slice none 0 0) (.slice (some a) 1 d) 0 7) w where
 ta:=ta_rec _
 na:=fea_rec _
 n0:=by decide
 n1:=by omega
 z0 b hb:=by simpa using hb
 gl:=(Array.getElem?_eq_some_iff.1 h.1).1
 g1 W W' q hq hg hk:=hg.keep hk (by have:=(Array.getElem?_eq_some_iff.1 h.1).1; simp; omega)
 p W p hk hp hpc:=by
  have hgl:=(Array.getElem?_eq_some_iff.1 h.1).1
  refine ⟨_, _, (by kernel_rfl), fe_rec _ W, fea_rec _ W, (recEnc g d a 0 W (fun W' hk' => pp_prep_vl p [0, 0, 0, 0, 1, 2, 97, 0] rfl (hk'.heap hpc (by simp)) (by omega) (FieldAt.keep (FieldAt.keep h.1 hk (by simp)) hk' (by simp))) (by simp; omega) (by simp; omega) hag (h.2.kept0 hk)).mono ?_⟩
  rintro e w' ⟨rfl, ⟨h1, h2⟩, h3⟩
  exact ⟨rfl, h2, h1, h3⟩
 r W p r hk hp hr hpr hg hpc hraw:=by
  have hgl:=(Array.getElem?_eq_some_iff.1 h.1).1
  refine ⟨_, _, (by kernel_rfl), fe_rec _ W, fea_rec _ W, (recEnc g d a 7 W (fun W' hk' => pp_real_vl p r [0, 0, 0, 1, 2, 97, 0] rfl (hk'.heap hpc (by simp)) (hraw.keep hk' (by simp)) hpr (by omega) (by omega) (hg.keep hk' (by simp))) (by simp; omega) (by simp; omega) hag (h.2.kept hk (fun b hb => by cases hb; simpa using hag))).mono ?_⟩
  rintro e w' ⟨rfl, ⟨h1, h2⟩, h3⟩
  exact ⟨rfl, h1, h2, h3⟩
theorem encs_msg (g d : Nat) (a : Addr) (w : World) (h : MsgAt g a d (.slice none 0 0) (.int .i64 0) w) (hsl : SlIs w 1 (some a) 1 (Lib.byteCells [97])) (hag : a.block ≠ g) (hal : a.block < w.heap.size) : Encs 122 (.pointer (some ⟨g, 0, none⟩)) g 15 [0, 0, 0, 0] (big 4 (sumB 3988292384 [0, 0, 255, 255, 255, 255, 0, 0, 0, 1, 97]) ++ [0, 0, 255, 255, 255, 255, 0, 0, 0, 1, 97]) (MsgAt g a d (.slice (some a) 1 d) (.int .i64 1)) w where
 ta:=ta_msg _
 na:=fea_msg _
 n0:=by decide
 n1:=by omega
 z0 b hb:=by simpa using hb
 gl:=h.lt
 g1 W W' q hq hg hk:=hg.keep hk (by have:=h.lt; simp; omega)
 p W p hk hp hpc:=by
  have hgl:=h.lt
  have hpl : p < W.heap.size:=(Array.getElem?_eq_some_iff.1 hpc).1
  have hks:=hk.size
  refine ⟨_, _, (by kernel_rfl), fe_msg _ W, fea_msg _ W, (msgEnc1 (T:=160) (pv:=.pointer (some ⟨p, 0, none⟩)) (S:=[p]) (Q:=fun _ W => ∃ st, PrepAt p st 15 W) g d a W (h.keep hk (by simp)) (fun W' g' hk' hs hg' => pp_prep_crc p 15 g (by omega) (by have:=hk'.size; omega) (by omega) _ rfl (hk'.heap hpc (by simp)) (by omega) (by omega) hs) (fun W => fpa_push _ W) (by intro s hs; simp at hs; omega) (by simp; omega) (by simp; omega) hag (by omega) (hsl.kept0 hk)).mono ?_⟩
  rintro e w' ⟨rfl, g', hg', hq, hm, h3⟩
  exact ⟨rfl, hq, hm, (Kept.refl [g, p] W).trans h3 (fun x hx => by simp at hx ⊢; omega)⟩
 r W p r hk hp hr hpr hg hpc hraw:=by
  have hgl:=h.lt
  have hpl : p < W.heap.size:=(Array.getElem?_eq_some_iff.1 hpc).1
  have hrl : r < W.heap.size:=by
   obtain ⟨A, h1, -⟩:=hraw
   exact (Array.getElem?_eq_some_iff.1 h1).1
  have hks:=hk.size
  refine ⟨_, _, (by kernel_rfl), fe_msg _ W, fea_msg _ W, (msgEnc2 (T:=172) (pv:=.pointer (some ⟨p, 0, none⟩)) (S:=[p, r]) (Q:=fun _ W => Raw r 15 (big 4 (sumB 3988292384 [0, 0, 255, 255, 255, 255, 0, 0, 0, 1, 97]) ++ [0, 0, 255, 255, 255, 255, 0, 0, 0, 1, 97]) W ∧ ∃ k st, W.heap[p]? = some (.cells #[.slice (some ⟨r, 0, none⟩) 15 15, k, st] 174 (0, 0))) g d a W hg (fun W' g' hk' hs hg' => pp_real_crc p r 15 g (by omega) (by omega) (by have:=hk'.size; omega) (by omega) [0, 0, 255, 255, 255, 255, 0, 0, 0, 1, 97] rfl (by decide) (by decide) (hk'.heap hpc (by simp)) (hraw.keep hk' (by simp)) hpr (by omega) (by omega) hs) (fun W => fra_push _ W) (by intro s hs; simp at hs; omega) (by simp; omega) (by simp; omega) hag (by omega) (hsl.kept hk (fun b hb => by cases hb; simpa using hag))).mono ?_⟩
  rintro e w' ⟨rfl, g', hg', ⟨hq1, hq2⟩, hm, h3⟩
  exact ⟨rfl, hq1, hq2, (Kept.refl [g, p, r] W).trans h3 (fun x hx => by simp at hx ⊢; omega)⟩
theorem moment_none (w : World) : Calls Tryz.prog 85 #[.int .i64 (-1)] w (fun e w' => e = .returned (.agg #[.int .i64 0, .int .i64 0]) ∧ Kept [] w w'):=by
 go_enter Tryz.func85, Tryz.ntmps85
 go_wp2_with (refine wl_store_struct rfl 134 _ _ rfl (cs:=#[.int .i64 0, .int .i64 0]) rfl w.heap.size rfl rfl 134 _ (heap_alloc_new _ _) rfl rfl ?_; rw [World.setRow_alloc_new])
 refine bodyPost_ret (results_cell_row rfl _ _ w.heap.size 134 #[.int .i64 0, .int .i64 0] (0, 0) _ rfl (heap_alloc_new _ _) Tryz.underlying134 rfl rfl) rfl ⟨rfl, (Kept.refl [] w).alloc _⟩
def mgF (aa : Addr) (c z z9 : Nat) (ix : Nat) (v : Value) (W : World) : Prop :=
 match ix with
 | 0 => v = .pointer (some ⟨z, 0, none⟩)
 | 1 => v = .int .i8 0
 | 2 => v = .pointer (some ⟨z, 1, none⟩)
 | 3 => v = .bool false
 | 4 => v = .pointer (some ⟨z, 2, none⟩)
 | 5 => v = .int .i64 (-1)
 | 6 => v = .agg #[.int .i64 0, .int .i64 0]
 | 7 => v = .pointer (some ⟨z, 3, none⟩)
 | 8 => v = .agg #[.bool true, .slice none 0 0]
 | 9 => v = .slice none 0 0
 | 10 => v = .pointer (some ⟨z, 5, none⟩)
 | 11 => v = .agg #[.bool false, .slice (some aa) 1 c]
 | 12 => ∃ a1 d1, v = .slice (some a1) 1 d1 ∧ SlIs W 1 (some a1) 1 (Lib.byteCells [97]) ∧ z9 ≤ a1.block ∧ a1.block < W.heap.size
 | 13 => ∃ a1 d1, v = .agg #[.int .i8 0, .int .i64 0, .bool false, .slice none 0 0, .slice (some a1) 1 d1, .pointer none, .int .i8 0, .int .i64 0, .int .i64 0, .slice none 0 0, .int .i64 0] ∧ SlIs W 1 (some a1) 1 (Lib.byteCells [97]) ∧ z9 ≤ a1.block ∧ a1.block < W.heap.size
 | _ => True
theorem mgF_stable {aa c z z9} : ∀ ix v w w', mgF aa c z z9 ix v w → Kept [] w w' → mgF aa c z z9 ix v w':=by
 intro ix v w w' h k
 unfold mgF at h ⊢
 split at h <;> (first | (exact h) | (obtain ⟨a1, d1, h1, h2, h3, h4⟩:=h; exact ⟨a1, d1, h1, h2.kept0 k, h3, lt_kept k _ h4⟩))
/-- What message leaves. -/
def MsgR (w : World) (e : Ending) (w' : World) : Prop:=∃ g a d, e = .returned (.pointer (some ⟨g, 0, none⟩)) ∧ MsgAt g a d (.slice none 0 0) (.int .i64 0) w' ∧ SlIs w' 1 (some a) 1 (Lib.byteCells [97]) ∧ w.heap.size ≤ g ∧ w.heap.size ≤ a.block ∧ a.block < w'.heap.size ∧ a.block ≠ g ∧ Kept [] w w'
theorem message_any (w : World) (aa : Addr) (c : Nat) (hA : SlIs w 1 (some aa) 1 (Lib.byteCells [97])) : Calls Tryz.prog 60 #[.agg #[.int .i8 0, .bool false, .int .i64 (-1), .bool true, .slice none 0 0, .bool false, .slice (some aa) 1 c]] w (MsgR w):=by
 have HA:=lh hA
 clear hA
 go_enter Tryz.func60, Tryz.ntmps60
 go_wp2
 obtain ⟨W3, hW3⟩ : ∃ W3, w.alloc (.cells #[.int .i8 0, .bool false, .int .i64 (-1), .bool true, .slice none 0 0, .bool false, .slice (some aa) 1 c] 62) = W3:=⟨_, rfl⟩
 have hk3 : Kept [] w W3:=by rw [← hW3]; exact (Kept.refl [] w).alloc _
 have hcs : ∀ j v, [.int .i8 0, .bool false, .int .i64 (-1), .bool true, .slice none 0 0, .bool false, .slice (some aa) 1 c][j]? = some v → W3.cell? ⟨w.heap.size, j, none⟩ = some v:=fun j v hv => by
  rw [← hW3]
  have h1:=new_cells w [.int .i8 0, .bool false, .int .i64 (-1), .bool true, .slice none 0 0, .bool false, .slice (some aa) 1 c] 62 j v hv
  rw [Nat.zero_add] at h1
  exact h1
 have hs3 : W3.heap.size = w.heap.size + 1:=by rw [← hW3, alloc_size]
 rw [hW3]
 obtain ⟨z, hz⟩ : ∃ z, w.heap.size = z:=⟨_, rfl⟩
 obtain ⟨z9, hz9⟩ : ∃ z9, W3.heap.size = z9:=⟨_, rfl⟩
 rw [hz] at hcs ⊢
 have HZ:=lh hz
 have HZ9:=lh hz9
 have HZ89 : Hid (z9 = z + 1):=lh (by omega)
 have HSL:=lh (HA.out.kept0 hk3)
 have HK3:=lh hk3
 have HCS:=lh hcs
 clear hW3 hk3 hcs hs3 hz hz9
 refine wp_region_facts' 14 (Kept []) (mgF aa c z z9) mixed (by kernel_rfl) (Kept.refl _ _).drew (fun _ _ _ h k => h.trans k (fun x hx => .inl hx)) mgF_stable ?_ ?_
 ·refine ⟨?_, ?_, ?_, ?_, ?_, ?_, ?_, ?_, ?_, ?_, ?_, ?_, ?_, ?_, trivial⟩
  all_goals go_light
  all_goals intro a W hR hs hd
  all_goals have p1 : a.tmps[1]? = some (.pointer (some ⟨z, 0, none⟩)):=hs.2.2 1 (by decide)
  all_goals have hRr : Kept [] W W:=Kept.refl _ _
  all_goals have h0 : W.cell? ⟨z, 0, none⟩ = _:=hR.cell (HCS.out 0 _ rfl) (by simp)
  all_goals have h1 : W.cell? ⟨z, 1, none⟩ = _:=hR.cell (HCS.out 1 _ rfl) (by simp)
  all_goals have h2 : W.cell? ⟨z, 2, none⟩ = _:=hR.cell (HCS.out 2 _ rfl) (by simp)
  all_goals have h3 : W.cell? ⟨z, 3, none⟩ = _:=hR.cell (HCS.out 3 _ rfl) (by simp)
  all_goals have h4 : W.cell? ⟨z, 4, none⟩ = _:=hR.cell (HCS.out 4 _ rfl) (by simp)
  all_goals have h5 : W.cell? ⟨z, 5, none⟩ = _:=hR.cell (HCS.out 5 _ rfl) (by simp)
  all_goals have h6 : W.cell? ⟨z, 6, none⟩ = _:=hR.cell (HCS.out 6 _ rfl) (by simp)
  ·refine ov W (.pointer (some ⟨z, 0, none⟩)) ?_ (.mk hRr rfl rfl)
   simp [go_sem, p1]
  ·have q0 : _ = _:=hd.1 rfl
   refine ov W (.int .i8 0) ?_ (.mk hRr rfl rfl)
   simp [go_sem, q0, h0]
  ·refine ov W (.pointer (some ⟨z, 1, none⟩)) ?_ (.mk hRr rfl rfl)
   simp [go_sem, p1]
  ·have q2 : _ = _:=hd.1 rfl
   refine ov W (.bool false) ?_ (.mk hRr rfl rfl)
   simp [go_sem, q2, h1]
  ·refine ov W (.pointer (some ⟨z, 2, none⟩)) ?_ (.mk hRr rfl rfl)
   simp [go_sem, p1]
  ·have q4 : _ = _:=hd.1 rfl
   refine ov W (.int .i64 (-1)) ?_ (.mk hRr rfl rfl)
   simp [go_sem, q4, h2]
  ·have q5 : _ = _:=hd.1 rfl
   refine ow_call (w':=W) (f:=85) (args:=#[.int .i64 (-1)]) (by simp [go_sem, q5]) (moment_none W) ?_
   rintro e w' ⟨rfl, hk1⟩
   exact ⟨_, rfl, .mk hk1 rfl rfl⟩
  ·refine ov W (.pointer (some ⟨z, 3, none⟩)) ?_ (.mk hRr rfl rfl)
   simp [go_sem, p1]
  ·have q7 : _ = _:=hd.1 rfl
   exact ow_load_struct 60 _ rfl Tryz.underlying60 rfl rfl z 3 (by simp [go_sem, q7]) [.bool true, .slice none 0 0] rfl (fun j v hv => by match j, hv with | 0, hv => cases hv; exact h3 | 1, hv => cases hv; exact h4) (.mk hRr rfl rfl)
  ·have q8 : _ = _:=hd.1 rfl
   refine ow_call (w':=W) (f:=82) (args:=#[.agg #[.bool true, .slice none 0 0]]) (by simp [go_sem, q8]) (raw_null W none 0 0) ?_
   rintro e w' ⟨rfl, hk1⟩
   exact ⟨_, rfl, .mk hk1 rfl rfl⟩
  ·refine ov W (.pointer (some ⟨z, 5, none⟩)) ?_ (.mk hRr rfl rfl)
   simp [go_sem, p1]
  ·have q10 : _ = _:=hd.1 rfl
   exact ow_load_struct 60 _ rfl Tryz.underlying60 rfl rfl z 5 (by simp [go_sem, q10]) [.bool false, .slice (some aa) 1 c] rfl (fun j v hv => by match j, hv with | 0, hv => cases hv; exact h5 | 1, hv => cases hv; exact h6) (.mk hRr rfl rfl)
  ·have q11 : _ = _:=hd.1 rfl
   refine ow_call (w':=W) (f:=82) (args:=#[.agg #[.bool false, .slice (some aa) 1 c]]) (by simp [go_sem, q11]) (raw_some W (some aa) 1 c [97] rfl (by omega) (HSL.out.kept0 hR)) ?_
   rintro e w' ⟨a1, d1, rfl, k1, k2, k3, k4, hk1⟩
   exact ⟨_, rfl, .mk hk1 ⟨a1, d1, rfl, k1, by have h8:=hR.size; have h7:=HZ9.out; omega, k3⟩ rfl⟩
  ·have q1 : _ = _:=hd.1 rfl
   have q3 : _ = _:=hd.2.1 rfl
   have q6 : _ = _:=hd.2.2.1 rfl
   have q9 : _ = _:=hd.2.2.2.1 rfl
   have q12:=hd.2.2.2.2.1 rfl
   obtain ⟨a1, d1, q12, k1, k2, k3⟩:=q12
   change _ = _ at q12
   refine ov W (.agg #[.int .i8 0, .int .i64 0, .bool false, .slice none 0 0, .slice (some a1) 1 d1, .pointer none, .int .i8 0, .int .i64 0, .int .i64 0, .slice none 0 0, .int .i64 0]) ?_ (.mk hRr ⟨a1, d1, rfl, k1, k2, k3⟩ rfl)
   simp [go_sem, q1, q3, q6, q9, q12]
 ·intro f W4 hR hf
  obtain ⟨f0, f1, f2, f3, f4, f5, f6, f7, f8, f9, f10, f11, f12, f13, -⟩:=hf
  change f 3 = _ at f0
  change f 4 = _ at f1
  change f 5 = _ at f2
  change f 6 = _ at f3
  change f 7 = _ at f4
  change f 8 = _ at f5
  change f 9 = _ at f6
  change f 10 = _ at f7
  change f 11 = _ at f8
  change f 12 = _ at f9
  change f 13 = _ at f10
  change f 14 = _ at f11
  change ∃ a1 d1, (f 15) = .slice (some a1) 1 d1 ∧ SlIs W4 1 (some a1) 1 (Lib.byteCells [97]) ∧ z9 ≤ a1.block ∧ a1.block < W4.heap.size at f12
  obtain ⟨x12, g12⟩ : ∃ x, f 15 = x:=⟨_, rfl⟩
  rw [g12] at f12
  change ∃ a1 d1, (f 16) = .agg #[.int .i8 0, .int .i64 0, .bool false, .slice none 0 0, .slice (some a1) 1 d1, .pointer none, .int .i8 0, .int .i64 0, .int .i64 0, .slice none 0 0, .int .i64 0] ∧ SlIs W4 1 (some a1) 1 (Lib.byteCells [97]) ∧ z9 ≤ a1.block ∧ a1.block < W4.heap.size at f13
  obtain ⟨x13, g13⟩ : ∃ x, f 16 = x:=⟨_, rfl⟩
  rw [g13] at f13
  simp only [headDsts, List.take_succ_cons, List.take_zero, List.filterMap_cons, List.filterMap_nil, setAll, f0, f1, f2, f3, f4, f5, f6, f7, f8, f9, f10, f11, g12, g13, List.setIfInBounds_toArray, List.set_cons_succ, List.set_cons_zero, List.drop_succ_cons, List.drop_zero]
  clear f0 f1 f2 f3 f4 f5 f6 f7 f8 f9 f10 f11 g12 g13 f
  obtain ⟨a1, d1, rfl, k1, k2, k3⟩:=f13
  have HK1:=lh k1
  have HK2:=lh k2
  have HKA:=lh k3
  have HKW:=lh (HK3.out.trans0 hR)
  clear f12 k1 k2 k3 hR
  go_wp2
  go_ret
  have hz:=HZ.out
  have hz8:=HZ89.out
  have hk2:=HK2.out
  have hka:=HKA.out
  have hkw:=HKW.out.size
  exact ⟨_, a1, d1, rfl, heap_alloc_new W4 _, HK1.out.kept0 ((Kept.refl [] W4).alloc _), by omega, by omega, by rw [alloc_size]; omega, by omega, HKW.out.trans0 ((Kept.refl [] W4).alloc _)⟩
/-- What RecordWrite, MessageWrite leave. -/
def AliveR (f : List UInt8) (N : Nat) (w : World) (e : Ending) (w' : World) : Prop:=∃ a c, e = .returned (.tuple #[.slice (some a) N c, .bool true]) ∧ SlIs w' 1 (some a) N (Lib.byteCells f) ∧ w.heap.size ≤ a.block ∧ a.block < w'.heap.size ∧ N ≤ c ∧ Kept [] w w'
theorem recordWrite_any (w : World) (aa : Addr) (c : Nat) (hA : SlIs w 1 (some aa) 1 (Lib.byteCells [97])) : Calls Tryz.prog 29 #[.agg #[.int .i8 0, .int .i64 0, .int .i64 0, .bool true, .slice none 0 0, .bool false, .slice (some aa) 1 c, .slice none 0 0]] w (AliveR [14, 0, 0, 0, 1, 2, 97, 0] 8 w):=by
 have HREC:=lh (record_any _ aa c (hA.kept0 ((Kept.refl [] w).alloc (.cells #[.int .i8 0, .int .i64 0, .int .i64 0, .bool true, .slice none 0 0, .bool false, .slice (some aa) 1 c, .slice none 0 0] 71))))
 clear hA
 go_enter Tryz.func29, Tryz.ntmps29
 go_wp2_with (first
  | (refine wl_load_struct rfl 71 _ rfl Tryz.underlying71 rfl rfl w.heap.size 0 rfl [.int .i8 0, .int .i64 0, .int .i64 0, .bool true, .slice none 0 0, .bool false, .slice (some aa) 1 c, .slice none 0 0] rfl (new_cells w [.int .i8 0, .int .i64 0, .int .i64 0, .bool true, .slice none 0 0, .bool false, .slice (some aa) 1 c, .slice none 0 0] 71) ?_)
  | ((with_reducible refine HREC.out.mono ?_); rintro e w2 ⟨g, a, d, rfl, h1, h2, h3, h4, h5, hk2⟩; have HGE : Hid (w.heap.size ≤ g):=lh (by rw [alloc_size] at h2; omega); have HW:=lh (write57 w2 (encs_rec g d a w2 h1 h5 h4) (te_rec _) (by decide)); have HK2:=lh (((Kept.refl [] w).alloc _).trans0 hk2); clear h1 h2 h3 h4 h5 hk2)
  | ((with_reducible refine HW.out.mono ?_); rintro e w3 ⟨b, c3, rfl, h1, h2, h3, h4, hk3⟩; have HSL:=lh h1; have HB2:=lh h2; have HB3:=lh h3; have HB4:=lh h4; have HK3:=lh hk3; clear h1 h2 h3 h4 hk3))
 exact bodyPost_ret (results_tmp2 rfl _ _ _) rfl ⟨b, c3, rfl, HSL.out, by have h7:=HK2.out.size; have h8:=HB2.out; omega, HB3.out, HB4.out, HK2.out.trans HK3.out (fun x hx => .inr (by have h8:=HGE.out; simp at hx; omega))⟩
theorem messageWrite_any (w : World) (aa : Addr) (c : Nat) (hA : SlIs w 1 (some aa) 1 (Lib.byteCells [97])) : Calls Tryz.prog 31 #[.agg #[.int .i8 0, .bool false, .int .i64 (-1), .bool true, .slice none 0 0, .bool false, .slice (some aa) 1 c]] w (AliveR (big 4 (sumB 3988292384 [0, 0, 255, 255, 255, 255, 0, 0, 0, 1, 97]) ++ [0, 0, 255, 255, 255, 255, 0, 0, 0, 1, 97]) 15 w):=by
 have HREC:=lh (message_any _ aa c (hA.kept0 ((Kept.refl [] w).alloc (.cells #[.int .i8 0, .bool false, .int .i64 (-1), .bool true, .slice none 0 0, .bool false, .slice (some aa) 1 c] 62))))
 clear hA
 go_enter Tryz.func31, Tryz.ntmps31
 go_wp2_with (first
  | (refine wl_load_struct rfl 62 _ rfl Tryz.underlying62 rfl rfl w.heap.size 0 rfl [.int .i8 0, .bool false, .int .i64 (-1), .bool true, .slice none 0 0, .bool false, .slice (some aa) 1 c] rfl (new_cells w [.int .i8 0, .bool false, .int .i64 (-1), .bool true, .slice none 0 0, .bool false, .slice (some aa) 1 c] 62) ?_)
  | ((with_reducible refine HREC.out.mono ?_); rintro e w2 ⟨g, a, d, rfl, h1, h1s, h2, h3, h4, h5, hk2⟩; have HGE : Hid (w.heap.size ≤ g):=lh (by rw [alloc_size] at h2; omega); have HW:=lh (write57 w2 (encs_msg g d a w2 h1 h1s h5 h4) (te_msg _) (by decide)); have HK2:=lh (((Kept.refl [] w).alloc _).trans0 hk2); clear h1 h2 h3 h4 h5 hk2)
  | ((with_reducible refine HW.out.mono ?_); rintro e w3 ⟨b, c3, rfl, h1, h2, h3, h4, hk3⟩; have HSL:=lh h1; have HB2:=lh h2; have HB3:=lh h3; have HB4:=lh h4; have HK3:=lh hk3; clear h1 h2 h3 h4 hk3))
 exact bodyPost_ret (results_tmp2 rfl _ _ _) rfl ⟨b, c3, rfl, HSL.out, by have h7:=HK2.out.size; have h8:=HB2.out; omega, HB3.out, HB4.out, HK2.out.trans HK3.out (fun x hx => .inr (by have h8:=HGE.out; simp at hx; omega))⟩
end Go.Proofs.YtmpjikihnmagoaaGreatDoor
