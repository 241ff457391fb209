/-
  A record is decoded (146). Conditions: the record of recordsAlive.
-/
import Derived.Test.YtmpjikihnmagoaaGreatDoorZT65
set_option maxRecDepth 100000
set_option maxHeartbeats 3200000
namespace Go.Proofs.YtmpjikihnmagoaaGreatDoor
open Go.RowKit
section
variable {g : Nat} {h at_ td od ky vl : Value} {s n : Int} {w : World}
theorem FieldAt.set0 (hf : FieldAt g h at_ td od ky vl s n w) (v : Value) : FieldAt g v at_ td od ky vl s n (w.setCell ⟨g, 0, none⟩ v):=by
 unfold FieldAt
 rw [heap_setCell_same _ _ _ _ _ _ hf]
 rfl
theorem FieldAt.set1 (hf : FieldAt g h at_ td od ky vl s n w) (v : Value) : FieldAt g h v td od ky vl s n (w.setCell ⟨g, 1, none⟩ v):=by
 unfold FieldAt
 rw [heap_setCell_same _ _ _ _ _ _ hf]
 rfl
theorem FieldAt.set2 (hf : FieldAt g h at_ td od ky vl s n w) (v : Value) : FieldAt g h at_ v od ky vl s n (w.setCell ⟨g, 2, none⟩ v):=by
 unfold FieldAt
 rw [heap_setCell_same _ _ _ _ _ _ hf]
 rfl
theorem FieldAt.set3 (hf : FieldAt g h at_ td od ky vl s n w) (v : Value) : FieldAt g h at_ td v ky vl s n (w.setCell ⟨g, 3, none⟩ v):=by
 unfold FieldAt
 rw [heap_setCell_same _ _ _ _ _ _ hf]
 rfl
theorem FieldAt.set4 (hf : FieldAt g h at_ td od ky vl s n w) (v : Value) : FieldAt g h at_ td od v vl s n (w.setCell ⟨g, 4, none⟩ v):=by
 unfold FieldAt
 rw [heap_setCell_same _ _ _ _ _ _ hf]
 rfl
theorem FieldAt.set5 (hf : FieldAt g h at_ td od ky vl s n w) (v : Value) : FieldAt g h at_ td od ky v s n (w.setCell ⟨g, 5, none⟩ v):=by
 unfold FieldAt
 rw [heap_setCell_same _ _ _ _ _ _ hf]
 rfl
end
theorem mk_row115 (W : World) : (Instr.makeSlice 115 (.int .i64 0) (.int .i64 0)).run Tryz.prog W = .ok (.slice (some ⟨W.heap.size, 0, none⟩) 0 0) (W.alloc (.cells #[] 182 (0, 0))):=by
 have k1 : (Tryz.prog.info? 182).map (fun i => (i.size, i.bytes)) = some (1, 8):=by kernel_rfl
 have k2 : (Tryz.prog.info? 182).bind (fun i => i.zero) = some (.pointer none):=by kernel_rfl
 obtain ⟨i, h1⟩ : ∃ i, Tryz.prog.info? 182 = some i:=by
  cases hq : Tryz.prog.info? 182 with
  | none => rw [hq] at k1; cases k1
  | some i => exact ⟨i, rfl⟩
 rw [h1] at k1 k2
 have h2 : i.zero = some (.pointer none):=k2
 have h34 : (i.size, i.bytes) = (1, 8):=Option.some.inj k1
 have h3 : i.size = 1:=congrArg Prod.fst h34
 have h4 : i.bytes = 8:=congrArg Prod.snd h34
 have hr:=run_makeSlice (P:=Tryz.prog) W 115 182 i _ Tryz.underlying115 h1 h2 .i64 .i64 (0 : Nat) (0 : Nat) (by omega) (by omega) (by rw [h3]; simp) (by rw [h4]; omega) (by omega)
 rw [h3] at hr
 have hm : madeCells (Value.cells (.pointer none)) 0 = #[]:=by
  apply Array.eq_empty_of_size_eq_zero
  rw [size_madeCells]
 simpa [hm] using hr
def rdeF (p g : Nat) (ix : Nat) (v : Value) (_ : World) : Prop :=
 match ix with
 | 0 => v = .iface 148 (.pointer (some ⟨p, 0, none⟩))
 | 1 => v = .pointer (some ⟨g, 0, none⟩)
 | 2 => v = .pointer (some ⟨g, 0, none⟩)
 | 3 => v = .pointer (some ⟨g, 6, none⟩)
 | 4 => v = .iface 312 (.pointer (some ⟨g, 6, none⟩))
 | 5 => v = .func (.method "pub-kestrel/pub/sarama.push") #[.iface 148 (.pointer (some ⟨p, 0, none⟩))] #[]
 | 6 => v = .func (.method "pub-kestrel/pub/sarama.push") #[.iface 148 (.pointer (some ⟨p, 0, none⟩))] #[]
 | 7 => v = .iface 148 (.pointer (some ⟨p, 0, none⟩))
 | _ => True
theorem rdeF_stable {p g} : ∀ ix v w w', rdeF p g ix v w → Kept [] w w' → rdeF p g ix v w':=by
 intro ix v w w' h k
 unfold rdeF at h ⊢
 split at h <;> (first | (exact h))
theorem recDec (p g : Nat) (aa : Addr) (cc : Nat) (w : World) (hd : DecAt p (some aa) cc (.slice none 0 0) [] [14, 0, 0, 0, 1, 2, 97, 0] w) (hf : FieldAt g (.slice none 0 0) (.int .i8 0) (.int .i64 0) (.int .i64 0) (.slice none 0 0) (.slice none 0 0) 0 0 w) (hgp : g ≠ p) (hga : g ≠ aa.block) : Calls Tryz.prog 146 #[.pointer (some ⟨g, 0, none⟩), .iface 148 (.pointer (some ⟨p, 0, none⟩))] w (fun e w' => e = .returned .nilIface ∧ ∃ q b cp, FieldAt g (.slice (some q) 0 0) (.int .i8 0) (.int .i64 0) (.int .i64 0) (.slice none 0 0) (.slice (some b) 1 cp) 0 7 w' ∧ SlIs w' 1 (some b) 1 (Lib.byteCells [97]) ∧ (∃ st, w'.heap[p]? = some (.cells #[.slice (some aa) 8 cc, .int .i64 8, st] 151 (0, 0))) ∧ b.block = aa.block ∧ Kept [g, p] w w'):=by
 have HPP:=lh (fun (W : World) (hk : Kept [] w W) => dec_push_vl p g aa cc _ _ _ _ _ _ 0 0 [0, 0, 0, 1, 2, 97, 0] W (hd.keep0 hk) (hf.keep hk (by simp)) hgp hga)
 have HGP:=lh hgp
 have HGA:=lh hga
 have HGO : Hid (¬ (g = p ∨ g = aa.block)):=lh (by rintro (e | e); exact hgp e; exact hga e)
 have HAP:=lh (hd.2.2.2.2 aa rfl)
 have HPL : Hid (p < w.heap.size):=lh (Array.getElem?_eq_some_iff.1 hd.1).1
 have HGL : Hid (g < w.heap.size):=lh hf.lt
 clear hd hf hgp hga
 go_enter Tryz.func146, Tryz.ntmps146
 go_wp2
 refine wp_region_facts' 8 (Kept []) (rdeF p g) mixed (by kernel_rfl) (Kept.refl _ _).drew (fun _ _ _ h k => h.trans k (fun x hx => .inl hx)) rdeF_stable ?_ ?_
 ·refine ⟨?_, ?_, ?_, ?_, ?_, ?_, ?_, ?_, trivial⟩
  all_goals go_light
  all_goals intro a W hR hs hd
  all_goals have p0 : a.tmps[0]? = some (.pointer (some ⟨g, 0, none⟩)):=hs.2.2 0 (by decide)
  all_goals have p1 : a.tmps[1]? = some (.iface 148 (.pointer (some ⟨p, 0, none⟩))):=hs.2.2 1 (by decide)
  all_goals have hRr : Kept [] W W:=Kept.refl _ _
  all_goals have hna_push:=fda_push ⟨p, 0, none⟩ W
  ·refine ov W (.iface 148 (.pointer (some ⟨p, 0, none⟩))) ?_ (.mk hRr rfl rfl)
   simp [go_sem, p1]
  ·refine ov W (.pointer (some ⟨g, 0, none⟩)) ?_ (.mk hRr rfl rfl)
   simp [go_sem, p0]
  ·have q1 : _ = _:=hd.1 rfl
   refine ov W (.pointer (some ⟨g, 0, none⟩)) ?_ (.mk hRr rfl rfl)
   simp [go_sem, q1]
  ·have q2 : _ = _:=hd.1 rfl
   refine ov W (.pointer (some ⟨g, 6, none⟩)) ?_ (.mk hRr rfl rfl)
   simp [go_sem, q2]
  ·have q3 : _ = _:=hd.1 rfl
   refine ov W (.iface 312 (.pointer (some ⟨g, 6, none⟩))) ?_ (.mk hRr rfl rfl)
   simp [go_sem, q3]
  ·have q0 : _ = _:=hd.1 rfl
   refine ov W (.func (.method "pub-kestrel/pub/sarama.push") #[.iface 148 (.pointer (some ⟨p, 0, none⟩))] #[]) ?_ (.mk hRr rfl rfl)
   simp [go_sem, q0]
  ·have q5 : _ = _:=hd.1 rfl
   refine ov W (.func (.method "pub-kestrel/pub/sarama.push") #[.iface 148 (.pointer (some ⟨p, 0, none⟩))] #[]) ?_ (.mk hRr rfl rfl)
   simp [go_sem, q5, hna_push]
  ·have q0 : _ = _:=hd.1 rfl
   have q5 : _ = _:=hd.2.1 rfl
   have q6 : _ = _:=hd.2.2.1 rfl
   refine ov W (.iface 148 (.pointer (some ⟨p, 0, none⟩))) ?_ (.mk hRr rfl rfl)
   simp [go_sem, q0]
 ·intro f V1 hR hf
  obtain ⟨f0, f1, f2, f3, f4, f5, f6, f7, -⟩:=hf
  change f 10 = _ at f0
  change f 11 = _ at f1
  change f 12 = _ at f2
  change f 13 = _ at f3
  change f 14 = _ at f4
  change f 15 = _ at f5
  change f 16 = _ at f6
  change f 17 = _ at f7
  simp only [headDsts, List.take_succ_cons, List.take_zero, List.filterMap_cons, List.filterMap_nil, setAll, f0, f1, f2, f3, f4, f5, f6, f7, List.setIfInBounds_toArray, List.set_cons_succ, List.set_cons_zero, List.drop_succ_cons, List.drop_zero]
  clear f0 f1 f2 f3 f4 f5 f6 f7 f
  have HR:=lh hR
  clear hR
  go_wp2_with (first
   | (refine wl_invoke rfl _ _ _ _ rfl 148 (.pointer (some ⟨p, 0, none⟩)) (by simp [go_sem]) "push" rfl [.iface 312 (.pointer (some ⟨g, 6, none⟩))] (by simp [go_sem]) _ ⟨_, _, (by kernel_rfl), fd_push _ _, fda_push _ _, HPP.out _ HR.out⟩ ?_; rintro e w1 ⟨rfl, y, c, hat, hsy, hy1, hy2, hF, hk⟩; refine ⟨_, rfl, ?_⟩; have HAT1:=lh hat; have HF1:=lh hF; have HY:=lh hsy; have HY1 : Hid (w.heap.size ≤ y):=lh (by have h8:=HR.out.size; omega); have HDD:=lh (dec_real p aa cc (.slice (some ⟨y, 0, none⟩) 1 c)); have HK0:=lh ((HR.out.mono (T:=[g, p]) (by simp)).trans hk (fun x hx => .inl hx)); have HK1:=lh (Kept.refl [g, p] w1); clear hat hsy hy1 hy2 hF hk)
   | (refine wl_invoke rfl _ _ _ _ rfl 148 (.pointer (some ⟨p, 0, none⟩)) (by simp [go_sem]) "getInt8" rfl [] (by simp [go_sem]) _ (HDD.out.int8 [14] [0, 0, 1, 2, 97, 0] _ 0 ⟨by omega, by omega⟩ (by rw [big10]; exact HAT1.out)) ?_; rintro e w2 ⟨rfl, ha, hk⟩; refine ⟨_, rfl, ?_⟩; have HAT2:=lh (show DecAt p (some aa) cc (.slice (some ⟨y, 0, none⟩) 1 c) [14, 0] [0, 0, 1, 2, 97, 0] w2 by have h9:=ha; rw [big10] at h9; exact h9); have hF:=HF1.out.keep hk (by simpa using HGP.out); have HF2:=lh hF; have HK2:=lh (HK1.out.trans (hk.mono (T:=[g, p]) (by simp)) (fun x hx => .inl hx)); have hc2:=hF.cell 1 _ rfl; have hf2:=hF.frozen 1; have HFs2:=lh (hF.set1 (.int .i8 0)); have HATs2:=lh (HDD.out.keepg _ _ _ _ g HGO.out HAT2.out (kept_set g 1 (.int .i8 0) w2)); have HKs2:=lh (HK2.out.trans ((kept_set g 1 (.int .i8 0) w2).mono (T:=[g, p]) (by simp)) (fun x hx => .inl hx)); clear ha hk hF)
   | (refine wl_invoke rfl _ _ _ _ rfl 148 (.pointer (some ⟨p, 0, none⟩)) (by simp [go_sem]) "getVarint" rfl [] (by simp [go_sem]) _ (HDD.out.varint [14, 0] [0, 1, 2, 97, 0] _ 0 ⟨by omega, by omega⟩ (by rw [uv0]; exact HATs2.out)) ?_; rintro e w3 ⟨rfl, ha, hk⟩; refine ⟨_, rfl, ?_⟩; have HAT3:=lh (show DecAt p (some aa) cc (.slice (some ⟨y, 0, none⟩) 1 c) [14, 0, 0] [0, 1, 2, 97, 0] w3 by have h9:=ha; rw [uv0] at h9; exact h9); have hF:=HFs2.out.keep hk (by simpa using HGP.out); have HF3:=lh hF; have HK3:=lh (HKs2.out.trans (hk.mono (T:=[g, p]) (by simp)) (fun x hx => .inl hx)); have hc3:=hF.cell 2 _ rfl; have hf3:=hF.frozen 2; have HFs3:=lh (hF.set2 (.int .i64 0)); have HATs3:=lh (HDD.out.keepg _ _ _ _ g HGO.out HAT3.out (kept_set g 2 (.int .i64 0) w3)); have HKs3:=lh (HK3.out.trans ((kept_set g 2 (.int .i64 0) w3).mono (T:=[g, p]) (by simp)) (fun x hx => .inl hx)); clear ha hk hF)
   | (refine wl_invoke rfl _ _ _ _ rfl 148 (.pointer (some ⟨p, 0, none⟩)) (by simp [go_sem]) "getVarint" rfl [] (by simp [go_sem]) _ (HDD.out.varint [14, 0, 0] [1, 2, 97, 0] _ 0 ⟨by omega, by omega⟩ (by rw [uv0]; exact HATs3.out)) ?_; rintro e w4 ⟨rfl, ha, hk⟩; refine ⟨_, rfl, ?_⟩; have HAT4:=lh (show DecAt p (some aa) cc (.slice (some ⟨y, 0, none⟩) 1 c) [14, 0, 0, 0] [1, 2, 97, 0] w4 by have h9:=ha; rw [uv0] at h9; exact h9); have hF:=HFs3.out.keep hk (by simpa using HGP.out); have HF4:=lh hF; have HK4:=lh (HKs3.out.trans (hk.mono (T:=[g, p]) (by simp)) (fun x hx => .inl hx)); have hc4:=hF.cell 3 _ rfl; have hf4:=hF.frozen 3; have HFs4:=lh (hF.set3 (.int .i64 0)); have HATs4:=lh (HDD.out.keepg _ _ _ _ g HGO.out HAT4.out (kept_set g 3 (.int .i64 0) w4)); have HKs4:=lh (HK4.out.trans ((kept_set g 3 (.int .i64 0) w4).mono (T:=[g, p]) (by simp)) (fun x hx => .inl hx)); clear ha hk hF)
   | (refine wl_invoke rfl _ _ _ _ rfl 148 (.pointer (some ⟨p, 0, none⟩)) (by simp [go_sem]) "getVarintBytes" rfl [] (by simp [go_sem]) _ (HDD.out.varnil [14, 0, 0, 0] [2, 97, 0] _ (by rw [uvm1]; exact HATs4.out)) ?_; rintro e w5 ⟨rfl, ha, hk⟩; refine ⟨_, rfl, ?_⟩; have HAT5:=lh (show DecAt p (some aa) cc (.slice (some ⟨y, 0, none⟩) 1 c) [14, 0, 0, 0, 1] [2, 97, 0] w5 by have h9:=ha; rw [uvm1] at h9; exact h9); have hF:=HFs4.out.keep hk (by simpa using HGP.out); have HF5:=lh hF; have HK5:=lh (HKs4.out.trans (hk.mono (T:=[g, p]) (by simp)) (fun x hx => .inl hx)); have hc5:=hF.cell 4 _ rfl; have hf5:=hF.frozen 4; have HFs5:=lh (hF.set4 (.slice none 0 0)); have HATs5:=lh (HDD.out.keepg _ _ _ _ g HGO.out HAT5.out (kept_set g 4 (.slice none 0 0) w5)); have HKs5:=lh (HK5.out.trans ((kept_set g 4 (.slice none 0 0) w5).mono (T:=[g, p]) (by simp)) (fun x hx => .inl hx)); clear ha hk hF)
   | (refine wl_invoke rfl _ _ _ _ rfl 148 (.pointer (some ⟨p, 0, none⟩)) (by simp [go_sem]) "getVarintBytes" rfl [] (by simp [go_sem]) _ (HDD.out.varbytes [14, 0, 0, 0, 1] [0] _ [97] (by simp) (by rw [uv97]; exact HATs5.out)) ?_; rintro e w6 ⟨b, cp, rfl, hsl, hbr, ha, hk⟩; refine ⟨_, rfl, ?_⟩; have HAT6:=lh (show DecAt p (some aa) cc (.slice (some ⟨y, 0, none⟩) 1 c) [14, 0, 0, 0, 1, 2, 97] [0] w6 by have h9:=ha; rw [uv97] at h9; exact h9); have hF:=HFs5.out.keep hk (by simpa using HGP.out); have HF6:=lh hF; have HK6:=lh (HKs5.out.trans (hk.mono (T:=[g, p]) (by simp)) (fun x hx => .inl hx)); have HSB:=lh (show SlIs w6 1 (some b) 1 (Lib.byteCells [97]) from hsl); have HBR:=lh hbr; have hc6:=hF.cell 5 _ rfl; have hf6:=hF.frozen 5; have HFs6:=lh (hF.set5 (.slice (some b) 1 cp)); have HATs6:=lh (HDD.out.keepg _ _ _ _ g HGO.out HAT6.out (kept_set g 5 (.slice (some b) 1 cp) w6)); have HKs6:=lh (HK6.out.trans ((kept_set g 5 (.slice (some b) 1 cp) w6).mono (T:=[g, p]) (by simp)) (fun x hx => .inl hx)); clear ha hk hF hsl hbr)
   | (refine wl_invoke rfl _ _ _ _ rfl 148 (.pointer (some ⟨p, 0, none⟩)) (by simp [go_sem]) "getVarint" rfl [] (by simp [go_sem]) _ (HDD.out.varint [14, 0, 0, 0, 1, 2, 97] [] _ 0 ⟨by omega, by omega⟩ (by rw [uv0]; exact HATs6.out)) ?_; rintro e w7 ⟨rfl, ha, hk⟩; refine ⟨_, rfl, ?_⟩; have HAT7:=lh (show DecAt p (some aa) cc (.slice (some ⟨y, 0, none⟩) 1 c) [14, 0, 0, 0, 1, 2, 97, 0] [] w7 by have h9:=ha; rw [uv0] at h9; exact h9); have hF:=HFs6.out.keep hk (by simpa using HGP.out); have HF7:=lh hF; have HK67:=lh hk; have HK7:=lh (HKs6.out.trans (hk.mono (T:=[g, p]) (by simp)) (fun x hx => .inl hx)); clear ha hk hF)
   | (refine wl_invoke rfl _ _ _ _ rfl 148 (.pointer (some ⟨p, 0, none⟩)) (by simp [go_sem]) "remaining" rfl [] (by simp [go_sem]) _ ((HDD.out.left _ [] _ HAT7.out).mono (fun e w' h => (by simpa using h : e = .returned (.int .i64 0) ∧ Kept [] w7 w'))) ?_; rintro e w8 ⟨rfl, hk⟩; refine ⟨_, rfl, ?_⟩; have HK8:=lh (HK7.out.trans0 hk); have hmk:=mk_row115 w8; have hF8:=HF7.out.keep (hk.trans0 ((Kept.refl [] w8).alloc (.cells #[] 182 (0, 0)))) (by simp); have hc8:=hF8.cell 0 _ rfl; have hf8:=hF8.frozen 0; have HF8:=lh hF8; have HAT8:=lh (HDD.out.keep _ _ _ _ HAT7.out (hk.trans0 ((Kept.refl [] w8).alloc (.cells #[] 182 (0, 0))))); have HKa : Hid (Kept [] w7 (w8.alloc (.cells #[] 182 (0, 0)))):=lh (hk.trans0 ((Kept.refl [] w8).alloc _)); clear hk hF8))
  have HF9:=lh (HF8.out.set0 (.slice (some ⟨w8.heap.size, 0, none⟩) 0 0))
  have HAT9:=lh (HDD.out.keepg _ _ _ _ g HGO.out HAT8.out (kept_set g 0 (.slice (some ⟨w8.heap.size, 0, none⟩) 0 0) _))
  have HK9 : Hid (Kept [g, p] w1 ((w8.alloc (.cells #[] 182 (0, 0))).setCell ⟨g, 0, none⟩ (.slice (some ⟨w8.heap.size, 0, none⟩) 0 0))):=lh ((HK7.out.trans0 HKa.out).trans ((kept_set g 0 _ _).mono (T:=[g, p]) (by simp)) (fun x hx => .inl hx))
  have HY9 : Hid (SlIs ((w8.alloc (.cells #[] 182 (0, 0))).setCell ⟨g, 0, none⟩ (.slice (some ⟨w8.heap.size, 0, none⟩) 0 0)) 1 (some ⟨y, 0, none⟩) 1 [.iface 312 (.pointer (some ⟨g, 6, none⟩))]):=lh (HY.out.kept HK9.out (fun a e => by cases e; have h1:=HY1.out; have h2:=HPL.out; have h3:=HGL.out; simp; omega))
  have HK69 : Hid (Kept [g, p] w6 ((w8.alloc (.cells #[] 182 (0, 0))).setCell ⟨g, 0, none⟩ (.slice (some ⟨w8.heap.size, 0, none⟩) 0 0))):=lh (((((kept_set g 5 (.slice (some b) 1 cp) w6).mono (T:=[g, p]) (by simp)).trans (HK67.out.mono (T:=[g, p]) (by simp)) (fun x hx => .inl hx)).trans0 HKa.out).trans ((kept_set g 0 _ _).mono (T:=[g, p]) (by simp)) (fun x hx => .inl hx))
  have HSB9 : Hid (SlIs ((w8.alloc (.cells #[] 182 (0, 0))).setCell ⟨g, 0, none⟩ (.slice (some ⟨w8.heap.size, 0, none⟩) 0 0)) 1 (some b) 1 (Lib.byteCells [97])):=lh (HSB.out.kept HK69.out (fun a e => by cases e; have h1:=HBR.out; have h2:=HGA.out; have h3:=HAP.out; simp; omega))
  generalize hq9 : ((w8.alloc (.cells #[] 182 (0, 0))).setCell ⟨g, 0, none⟩ (.slice (some ⟨w8.heap.size, 0, none⟩) 0 0)) = W9 at HF9 HAT9 HK9 HY9 HSB9 ⊢
  clear hq9
  refine wp_loop_once ?_
  go_wp2_with (refine wl_invoke rfl _ _ _ _ rfl 148 (.pointer (some ⟨p, 0, none⟩)) (by simp [go_sem]) "pop" rfl [] (by simp [go_sem]) _ ⟨_, _, (by kernel_rfl), fd_pop _ _, fda_pop _ _, dec_pop p y c (some aa) 8 cc 8 312 (.pointer (some ⟨g, 6, none⟩)) (fun _ => True) [] W9 HAT9.out.1 HY9.out (fun W hk => ⟨_, _, (by kernel_rfl), fv_check _ W, fva_check _ W, (vl_check g _ _ _ _ _ _ (.slice (some aa) 8 cc) W (HF9.out.keep hk (by simpa using HGP.out))).mono (fun e w' h => ⟨h.1, trivial, h.2⟩)⟩)⟩ ?_; rintro e w10 ⟨rfl, -, W10, hp10, hk1, hk2⟩; refine ⟨_, rfl, ?_⟩; have HP10:=lh (hk2.heap hp10 (by simp)); have HK10:=lh (hk1.trans0 hk2); clear hp10 hk1 hk2)
  go_ret
  exact ⟨rfl, _, b, cp, HF9.out.keep HK10.out (by simpa using HGP.out), HSB9.out.kept HK10.out (fun a e => by cases e; have h1:=HBR.out; have h3:=HAP.out; simp; omega), ⟨_, HP10.out⟩, HBR.out, (HK0.out.trans HK9.out (fun x hx => .inl hx)).trans (HK10.out.mono (by simp)) (fun x hx => .inl hx)⟩
end Go.Proofs.YtmpjikihnmagoaaGreatDoor
