/-
  The preparing encoder: what each of its plain methods counts. Conditions: lengths below a thousand million.
-/
import Derived.Test.YtmpjikihnmagoaaGreatDoorZP0
import Derived.Test.YtmpjikihnmagoaaGreatDoorZB0
import Derived.Test.YtmpjikihnmagoaaGreatDoorZShelf
import Derived.Deep.Light
import Derived.Deep.QuietTactic
import Derived.BigQuiet
import Derived.Outline
import Derived.StillTail
import Derived.Laws.Cover3
set_option maxRecDepth 100000
set_option maxHeartbeats 1600000
namespace Go.Proofs.YtmpjikihnmagoaaGreatDoor
open Go.RowKit
/-- The preparing encoder as it lies in memory: its stack, what it has counted. -/
def PrepAt (p : Nat) (st : Value) (n : Nat) (w : World) : Prop:=w.heap[p]? = some (.cells #[st, .int .i64 n] 163 (0, 0))
theorem PrepAt.cell {p n : Nat} {st : Value} {w : World} (h : PrepAt p st n w) : w.cell? ⟨p, 1, none⟩ = some (.int .i64 n):=by
 unfold PrepAt at h
 simp [World.cell?, h]
theorem PrepAt.cell0 {p n : Nat} {st : Value} {w : World} (h : PrepAt p st n w) : w.cell? ⟨p, 0, none⟩ = some st:=by
 unfold PrepAt at h
 simp [World.cell?, h]
theorem PrepAt.frozen {p n o : Nat} {st : Value} {w : World} (h : PrepAt p st n w) : w.frozen? ⟨p, o, none⟩ = false:=by
 unfold PrepAt at h
 simp [World.frozen?, h]
theorem PrepAt.set {p n : Nat} {st : Value} {w : World} (h : PrepAt p st n w) {m : Nat} {v : Value} (hv : v = .int .i64 m) : PrepAt p st m (w.setCell ⟨p, 1, none⟩ v):=by
 subst hv
 unfold PrepAt at h ⊢
 rw [heap_setCell_same _ _ _ _ _ _ h]
 rfl
theorem PrepAt.keep {p n : Nat} {st : Value} {w w' : World} {S : List Nat} (h : PrepAt p st n w) (k : Kept S w w') (hS : p ∉ S) : PrepAt p st n w':=k.heap h hS
theorem PrepAt.lt {p n : Nat} {st : Value} {w : World} (h : PrepAt p st n w) : p < w.heap.size:=(Array.getElem?_eq_some_iff.1 h).1
theorem kept_set (p : Nat) (o : Nat) (v : Value) (w : World) : Kept [p] w (w.setCell ⟨p, o, none⟩ v):=(Kept.refl _ _).setCell (.inl (by simp)) _
/-- It has counted so much; nothing is handed back. -/
def PrepU (p : Nat) (st : Value) (m : Nat) (w : World) (e : Ending) (w' : World) : Prop:=e = .returned (.tuple #[]) ∧ PrepAt p st m w' ∧ Kept [p] w w'
/-- It has counted so much; no error is handed back. -/
def PrepN (p : Nat) (st : Value) (m : Nat) (w : World) (e : Ending) (w' : World) : Prop:=e = .returned .nilIface ∧ PrepAt p st m w' ∧ Kept [p] w w'
theorem prep_int8 (p n : Nat) (st : Value) (w : World) (h : PrepAt p st n w) (hn : n ≤ 1000000000) (x : Int) : Calls Tryz.prog 211 #[.pointer (some ⟨p, 0, none⟩), .int .i8 x] w (PrepU p st (n + 1) w):=by
 have h1:=h.cell
 have h2:=h.frozen (o:=1)
 have H:=lh h
 clear h
 go_enter Tryz.func211, Tryz.ntmps211
 go_wp2
 refine bodyPost_end (results_none rfl _ _ _) rfl ⟨rfl, H.out.set (by go_num), kept_set _ _ _ _⟩
theorem prep_int16 (p n : Nat) (st : Value) (w : World) (h : PrepAt p st n w) (hn : n ≤ 1000000000) (x : Int) : Calls Tryz.prog 206 #[.pointer (some ⟨p, 0, none⟩), .int .i16 x] w (PrepU p st (n + 2) w):=by
 have h1:=h.cell
 have h2:=h.frozen (o:=1)
 have H:=lh h
 clear h
 go_enter Tryz.func206, Tryz.ntmps206
 go_wp2
 refine bodyPost_end (results_none rfl _ _ _) rfl ⟨rfl, H.out.set (by go_num), kept_set _ _ _ _⟩
theorem prep_int32 (p n : Nat) (st : Value) (w : World) (h : PrepAt p st n w) (hn : n ≤ 1000000000) (x : Int) : Calls Tryz.prog 207 #[.pointer (some ⟨p, 0, none⟩), .int .i32 x] w (PrepU p st (n + 4) w):=by
 have h1:=h.cell
 have h2:=h.frozen (o:=1)
 have H:=lh h
 clear h
 go_enter Tryz.func207, Tryz.ntmps207
 go_wp2
 refine bodyPost_end (results_none rfl _ _ _) rfl ⟨rfl, H.out.set (by go_num), kept_set _ _ _ _⟩
theorem prep_int64 (p n : Nat) (st : Value) (w : World) (h : PrepAt p st n w) (hn : n ≤ 1000000000) (x : Int) : Calls Tryz.prog 209 #[.pointer (some ⟨p, 0, none⟩), .int .i64 x] w (PrepU p st (n + 8) w):=by
 have h1:=h.cell
 have h2:=h.frozen (o:=1)
 have H:=lh h
 clear h
 go_enter Tryz.func209, Tryz.ntmps209
 go_wp2
 refine bodyPost_end (results_none rfl _ _ _) rfl ⟨rfl, H.out.set (by go_num), kept_set _ _ _ _⟩
theorem prep_float (p n : Nat) (st : Value) (w : World) (h : PrepAt p st n w) (hn : n ≤ 1000000000) (x : Value) : Calls Tryz.prog 205 #[.pointer (some ⟨p, 0, none⟩), x] w (PrepU p st (n + 8) w):=by
 have h1:=h.cell
 have h2:=h.frozen (o:=1)
 have H:=lh h
 clear h
 go_enter Tryz.func205, Tryz.ntmps205
 go_wp2
 refine bodyPost_end (results_none rfl _ _ _) rfl ⟨rfl, H.out.set (by go_num), kept_set _ _ _ _⟩
theorem prep_bool (p n : Nat) (st : Value) (w : World) (h : PrepAt p st n w) (hn : n ≤ 1000000000) (x : Bool) : Calls Tryz.prog 202 #[.pointer (some ⟨p, 0, none⟩), .bool x] w (PrepU p st (n + 1) w):=by
 have h1:=h.cell
 have h2:=h.frozen (o:=1)
 have H:=lh h
 clear h
 go_enter Tryz.func202, Tryz.ntmps202
 go_wp2
 refine bodyPost_end (results_none rfl _ _ _) rfl ⟨rfl, H.out.set (by go_num), kept_set _ _ _ _⟩
theorem prep_arrlen (p n : Nat) (st : Value) (w : World) (h : PrepAt p st n w) (hn : n ≤ 1000000000) (x : Int) (hx : x ≤ 2147483647) : Calls Tryz.prog 201 #[.pointer (some ⟨p, 0, none⟩), .int .i64 x] w (PrepN p st (n + 4) w):=by
 have h1:=h.cell
 have h2:=h.frozen (o:=1)
 have hx2 : ¬ 2147483647 < x:=by omega
 have H:=lh h
 clear h
 go_enter Tryz.func201, Tryz.ntmps201
 go_wp2
 go_ret
 exact ⟨rfl, H.out.set (by go_num), kept_set _ _ _ _⟩
theorem prep_raw (p n : Nat) (st : Value) (w : World) (h : PrepAt p st n w) (hn : n ≤ 1000000000) (A : Option Addr) (m c : Nat) (hm : m ≤ 1000000000) : Calls Tryz.prog 213 #[.pointer (some ⟨p, 0, none⟩), .slice A m c] w (PrepN p st (n + m) w):=by
 have h1:=h.cell
 have h2:=h.frozen (o:=1)
 have hx2 : ¬ (2147483647 : Int) < (m : Int):=by omega
 have H:=lh h
 clear h
 go_enter Tryz.func213, Tryz.ntmps213
 go_wp2
 go_ret
 exact ⟨rfl, H.out.set (by go_num), kept_set _ _ _ _⟩
theorem prep_string (p n : Nat) (st : Value) (w : World) (h : PrepAt p st n w) (hn : n ≤ 1000000000) (s : ByteArray) (hs : s.size ≤ 32767) : Calls Tryz.prog 214 #[.pointer (some ⟨p, 0, none⟩), .string s] w (PrepN p st (n + (2 + s.size)) w):=by
 have h1:=h.cell
 have h2:=h.frozen (o:=1)
 have hx2 : ¬ (32767 : Int) < (s.size : Int):=by omega
 have H:=lh h
 have h3 : (w.setCell ⟨p, 1, none⟩ (.int .i64 ((n : Int) + 2))).cell? ⟨p, 1, none⟩ = some (.int .i64 ((n : Int) + 2)):=World.cell?_setCell_same _ _ _ h1
 have h4 : (w.setCell ⟨p, 1, none⟩ (.int .i64 ((n : Int) + 2))).frozen? ⟨p, 1, none⟩ = false:=(h.set (m:=n + 2) (by go_num)).frozen
 clear h
 go_enter Tryz.func214, Tryz.ntmps214
 go_wp2
 go_ret
 exact ⟨rfl, (H.out.set (m:=n + 2) (by go_num)).set (by go_num), (kept_set _ _ _ _).trans (kept_set _ _ _ _) (fun x hx => .inl hx)⟩
end Go.Proofs.YtmpjikihnmagoaaGreatDoor
/-
 The preparing encoder: varints, bytes that may be null, texts that may be null. Conditions: lengths below a thousand million.
-/
namespace Go.Proofs.YtmpjikihnmagoaaGreatDoor
open Go.RowKit
theorem mixed : Tryz.prog.follows .mixedOrders = true:=by kernel_rfl
theorem kept_setCells (g : Nat) : ∀ (vs : List Value) (o : Nat) (w : World), Kept [g] w (w.setCells g o vs)
 | [], _, w => Kept.refl _ w
 | v :: r, o, w => (kept_set g o v w).trans (kept_setCells g r (o + 1) _) (fun _x hx => .inl hx)
theorem zero10 (w : World) (j : Nat) (hj : j < 10) : ((w.alloc (.cells #[.int .u8 0, .int .u8 0, .int .u8 0, .int .u8 0, .int .u8 0, .int .u8 0, .int .u8 0, .int .u8 0, .int .u8 0, .int .u8 0] 341)).cell? ⟨w.heap.size, 0 + j, none⟩).isSome = true:=by
 have h : (w.alloc (.cells #[.int .u8 0, .int .u8 0, .int .u8 0, .int .u8 0, .int .u8 0, .int .u8 0, .int .u8 0, .int .u8 0, .int .u8 0, .int .u8 0] 341)).heap[w.heap.size]? = some _:=heap_alloc_new _ _
 simp only [World.cell?, h]
 simp
 omega
/-- Ten cells that may be written. -/
def Z10 (z : Nat) (W : World) : Prop:=∀ j, j < 10 → (W.cell? ⟨z, 0 + j, none⟩).isSome = true ∧ W.frozen? ⟨z, 0 + j, none⟩ = false
theorem some_set {w : World} {a : Addr} (b : Addr) (v : Value) (h : (w.cell? a).isSome = true) : ((w.setCell b v).cell? a).isSome = true:=by
 by_cases e : b = a
 ·subst e
  rw [World.cell?_setCell_same' _ _ _ h]
  rfl
 ·rw [World.cell?_setCell_other _ _ _ _ e]
  exact h
theorem some_setCells (g : Nat) : ∀ (vs : List Value) (o : Nat) (w : World) (a : Addr), (w.cell? a).isSome = true → ((w.setCells g o vs).cell? a).isSome = true
 | [], _, _, _, h => h
 | v :: r, o, _w, a, h => some_setCells g r (o + 1) _ a (some_set _ v h)
theorem Z10.setCells {z : Nat} {W : World} (h : Z10 z W) (g o : Nat) (vs : List Value) : Z10 z (W.setCells g o vs):=fun j hj =>
 ⟨some_setCells g vs o W _ (h j hj).1, by rw [World.frozen?_setCells]; exact (h j hj).2⟩
/-- What a counted varint leaves as it was. -/
def RZ (z : Nat) (a b : World) : Prop:=Kept [z] a b ∧ (Z10 z a → Z10 z b)
theorem RZ.refl (z : Nat) (a : World) : RZ z a a:=⟨Kept.refl _ a, id⟩
theorem RZ.trans {z : Nat} {a b c : World} (h : RZ z a b) (k : RZ z b c) : RZ z a c:=⟨h.1.trans k.1 (fun _x hx => .inl hx), fun hz => k.2 (h.2 hz)⟩
theorem RZ.drew (z : Nat) (a : World) : RZ z a a.drew:=⟨(Kept.refl _ a).drew, fun h j hj => h j hj⟩
def vaF (p z n k : Nat) (x : Value) (ix : Nat) (v : Value) (_ : World) : Prop :=
 match ix with
 | 0 => v = .pointer (some ⟨p, 0, none⟩)
 | 1 => v = .pointer (some ⟨p, 0, none⟩)
 | 2 => v = .pointer (some ⟨p, 1, none⟩)
 | 3 => v = .int .i64 n
 | 4 => v = .slice (some ⟨z, 0, none⟩) 10 10
 | 5 => v = x
 | 6 => v = .int .i64 k
 | 7 => v = .int .i64 ((n + k : Nat) : Int)
 | _ => True
theorem vaF_stable {p z n k x} : ∀ ix v w w', vaF p z n k x ix v w → RZ z w w' → vaF p z n k x ix v w':=by
 intro ix v w w' h _
 unfold vaF at h ⊢
 split at h <;> exact h
theorem prep_varint (p n : Nat) (st : Value) (w : World) (h : PrepAt p st n w) (hn : n ≤ 1000000000) (x : Int) (h0 : -9223372036854775808 ≤ x) (h1 : x ≤ 9223372036854775807) : Calls Tryz.prog 217 #[.pointer (some ⟨p, 0, none⟩), .int .i64 x] w (PrepU p st (n + (Lib.uvarint (Lib.zigzag x)).length) w):=by
 have H:=lh h
 have hpl:=h.lt
 have hlen : (Lib.uvarint (Lib.zigzag x)).length ≤ 10:=Lib.uvarint_length64 (zigzag_lt h0 h1)
 obtain ⟨k, hk⟩ : ∃ k, (Lib.uvarint (Lib.zigzag x)).length = k:=⟨_, rfl⟩
 have HC : Hid (∀ W : World, Z10 w.heap.size W → Calls Tryz.prog 220 #[.slice (some ⟨w.heap.size, 0, none⟩) 10 10, .int .i64 x] W fun e w' => e = .returned (.int .i64 k) ∧ RZ w.heap.size W w'):=fun W hW => by
  refine (Tryz.binary_PutVarint w.heap.size 0 10 10 x h0 h1 W (by omega) (fun j hj => hW j (by omega))).mono ?_
  rintro e w' ⟨rfl, rfl⟩
  exact ⟨by rw [hk], kept_setCells _ _ _ _, fun h => h.setCells _ _ _⟩
 rw [hk] at hlen ⊢
 have HK:=lh hk
 clear h hk
 go_enter Tryz.func217, Tryz.ntmps217
 go_wp2
 obtain ⟨z, hz⟩ : ∃ z, w.heap.size = z:=⟨_, rfl⟩
 have HZ0 : Hid (Z10 w.heap.size (w.alloc (.cells #[.int .u8 0, .int .u8 0, .int .u8 0, .int .u8 0, .int .u8 0, .int .u8 0, .int .u8 0, .int .u8 0, .int .u8 0, .int .u8 0] 341))):=fun j hj => ⟨zero10 w j hj, World.frozen?_alloc_new _ _ _ _⟩
 have HZFx : Hid (∀ o, (w.alloc (.cells #[.int .u8 0, .int .u8 0, .int .u8 0, .int .u8 0, .int .u8 0, .int .u8 0, .int .u8 0, .int .u8 0, .int .u8 0, .int .u8 0] 341)).frozen? ⟨w.heap.size, o, none⟩ = false):=fun o => World.frozen?_alloc_new _ _ _ _
 clear HZFx
 have HP1 : Hid (PrepAt p st n (w.alloc (.cells #[.int .u8 0, .int .u8 0, .int .u8 0, .int .u8 0, .int .u8 0, .int .u8 0, .int .u8 0, .int .u8 0, .int .u8 0, .int .u8 0] 341))):=H.out.keep ((Kept.refl [] w).alloc _) (by simp)
 have HK1 : Hid (Kept [] w (w.alloc (.cells #[.int .u8 0, .int .u8 0, .int .u8 0, .int .u8 0, .int .u8 0, .int .u8 0, .int .u8 0, .int .u8 0, .int .u8 0, .int .u8 0] 341))):=(Kept.refl [] w).alloc _
 have hzs : (w.alloc (.cells #[.int .u8 0, .int .u8 0, .int .u8 0, .int .u8 0, .int .u8 0, .int .u8 0, .int .u8 0, .int .u8 0, .int .u8 0, .int .u8 0] 341)).heap.size = w.heap.size + 1:=by simp
 generalize w.alloc (.cells #[.int .u8 0, .int .u8 0, .int .u8 0, .int .u8 0, .int .u8 0, .int .u8 0, .int .u8 0, .int .u8 0, .int .u8 0, .int .u8 0] 341) = w1 at HZ0 HP1 HK1 hzs ⊢
 rw [hz] at HZ0 HC hzs hpl ⊢
 have HZZ:=lh hz
 clear hz
 refine wp_region_facts' 8 (RZ z) (vaF p z n k (.int .i64 x)) mixed (by kernel_rfl) (RZ.drew _ _) (fun _ _ _ h k => h.trans k) vaF_stable ?_ ?_
 ·refine ⟨?_, ?_, ?_, ?_, ?_, ?_, ?_, ?_, trivial⟩
  all_goals go_light
  all_goals intro a W hR hs hd
  all_goals have p0 : a.tmps[0]? = some (.pointer (some ⟨p, 0, none⟩)):=hs.2.2 0 (by decide)
  all_goals have p1 : a.tmps[1]? = some (.int .i64 x):=hs.2.2 1 (by decide)
  all_goals have p4 : a.tmps[4]? = some (.pointer (some ⟨z, 0, none⟩)):=hs.2.2 4 (by decide)
  all_goals have hRr:=RZ.refl z W
  all_goals have hP:=HP1.out.keep hR.1 (by simp; omega)
  all_goals have hc:=hP.cell
  ·refine ov W (.pointer (some ⟨p, 0, none⟩)) ?_ (.mk hRr rfl rfl)
   simp [go_sem, p0]
  ·have q0 : _ = _:=hd.1 rfl
   refine ov W (.pointer (some ⟨p, 0, none⟩)) ?_ (.mk hRr rfl rfl)
   simp [go_sem, q0]
  ·have q1 : _ = _:=hd.1 rfl
   refine ov W (.pointer (some ⟨p, 1, none⟩)) ?_ (.mk hRr rfl rfl)
   simp [go_sem, q1]
  ·have q2 : _ = _:=hd.1 rfl
   refine ov W (.int .i64 n) ?_ (.mk hRr rfl rfl)
   simp [go_sem, q2, hc]
  ·refine ov W (.slice (some ⟨z, 0, none⟩) 10 10) ?_ (.mk hRr rfl rfl)
   have hal : Tryz.prog.arrayLen 341 = 10:=by simp [Program.arrayLen, Tryz.underlying341]
   have hsl : (Instr.sliceAt 341 (.pointer (some ⟨z, 0, none⟩)) none none none).run Tryz.prog W = .ok (.slice (some ⟨z, 0, none⟩) 10 10) W:=by
    rw [run_sliceAt_array_all W 341 ⟨z, 0, none⟩ (by simp [Program.arrayLen, Program.elem, Tryz.underlying341])]
    simp [hal, slicedAt]
    kernel_rfl
   simp [go_sem, p4, hsl]
  ·refine ov W (.int .i64 x) ?_ (.mk hRr rfl rfl)
   simp [go_sem, p1]
  ·have q4 : _ = _:=hd.1 rfl
   have q5 : _ = _:=hd.2.1 rfl
   refine ow_call (w':=W) (f:=220) (args:=#[.slice (some ⟨z, 0, none⟩) 10 10, .int .i64 x]) (by simp [go_sem, q4, q5]) (HC.out W (hR.2 HZ0.out)) ?_
   rintro e w' ⟨rfl, hk⟩
   exact ⟨_, rfl, .mk hk rfl rfl⟩
  ·have q3 : _ = _:=hd.1 rfl
   have q6 : _ = _:=hd.2.1 rfl
   refine ov W (.int .i64 ((n + k : Nat) : Int)) ?_ (.mk hRr rfl rfl)
   have hw : IntKind.i64.wrap ((n : Int) + (k : Int)) = (n : Int) + (k : Int):=by rw [IntWalk.i64_left, IntWalk.wrap64_in _ (by omega)]
   simp [go_sem, q3, q6, hw]
 ·intro f W hR hf
  obtain ⟨f0, f1, f2, f3, f4, f5, f6, f7, -⟩:=hf
  change f 5 = _ at f0
  change f 6 = _ at f1
  change f 7 = _ at f2
  change f 8 = _ at f3
  change f 9 = _ at f4
  change f 10 = _ at f5
  change f 11 = _ at f6
  change f 12 = _ at f7
  simp only [headDsts, List.take_succ_cons, List.take_zero, List.filterMap_cons, List.filterMap_nil, setAll, f0, f1, f2, f3, f4, f5, f6, f7, List.setIfInBounds_toArray, List.set_cons_succ, List.set_cons_zero, List.drop_succ_cons, List.drop_zero]
  clear f0 f1 f2 f3 f4 f5 f6 f7 f
  have hP:=HP1.out.keep hR.1 (by simp; omega)
  have h1:=hP.cell
  have h2:=hP.frozen (o:=1)
  have HP2:=lh hP
  have HR:=lh hR
  clear hP hR
  go_wp2
  refine bodyPost_end (results_none rfl _ _ _) rfl ⟨rfl, HP2.out.set rfl, ?_⟩
  exact ((HK1.out.mono (by simp)).trans HR.out.1 (fun x hx => .inr (by rw [List.mem_singleton.1 hx, HZZ.out]; exact Nat.le_refl _))).trans (kept_set _ _ _ _) (fun x hx => .inl hx)
theorem prep_uvarint (p n : Nat) (st : Value) (w : World) (h : PrepAt p st n w) (hn : n ≤ 1000000000) (x : Nat) (hx : x < 18446744073709551616) : Calls Tryz.prog 216 #[.pointer (some ⟨p, 0, none⟩), .int .u64 x] w (PrepU p st (n + (Lib.uvarint x).length) w):=by
 have H:=lh h
 have hpl:=h.lt
 have hlen : (Lib.uvarint x).length ≤ 10:=Lib.uvarint_length64 (hx)
 obtain ⟨k, hk⟩ : ∃ k, (Lib.uvarint x).length = k:=⟨_, rfl⟩
 have HC : Hid (∀ W : World, Z10 w.heap.size W → Calls Tryz.prog 219 #[.slice (some ⟨w.heap.size, 0, none⟩) 10 10, .int .u64 x] W fun e w' => e = .returned (.int .i64 k) ∧ RZ w.heap.size W w'):=fun W hW => by
  refine (Tryz.binary_PutUvarint w.heap.size 0 10 10 x hx W (by omega) (fun j hj => hW j (by omega))).mono ?_
  rintro e w' ⟨rfl, rfl⟩
  exact ⟨by rw [hk], kept_setCells _ _ _ _, fun h => h.setCells _ _ _⟩
 rw [hk] at hlen ⊢
 have HK:=lh hk
 clear h hk
 go_enter Tryz.func216, Tryz.ntmps216
 go_wp2
 obtain ⟨z, hz⟩ : ∃ z, w.heap.size = z:=⟨_, rfl⟩
 have HZ0 : Hid (Z10 w.heap.size (w.alloc (.cells #[.int .u8 0, .int .u8 0, .int .u8 0, .int .u8 0, .int .u8 0, .int .u8 0, .int .u8 0, .int .u8 0, .int .u8 0, .int .u8 0] 341))):=fun j hj => ⟨zero10 w j hj, World.frozen?_alloc_new _ _ _ _⟩
 have HZFx : Hid (∀ o, (w.alloc (.cells #[.int .u8 0, .int .u8 0, .int .u8 0, .int .u8 0, .int .u8 0, .int .u8 0, .int .u8 0, .int .u8 0, .int .u8 0, .int .u8 0] 341)).frozen? ⟨w.heap.size, o, none⟩ = false):=fun o => World.frozen?_alloc_new _ _ _ _
 clear HZFx
 have HP1 : Hid (PrepAt p st n (w.alloc (.cells #[.int .u8 0, .int .u8 0, .int .u8 0, .int .u8 0, .int .u8 0, .int .u8 0, .int .u8 0, .int .u8 0, .int .u8 0, .int .u8 0] 341))):=H.out.keep ((Kept.refl [] w).alloc _) (by simp)
 have HK1 : Hid (Kept [] w (w.alloc (.cells #[.int .u8 0, .int .u8 0, .int .u8 0, .int .u8 0, .int .u8 0, .int .u8 0, .int .u8 0, .int .u8 0, .int .u8 0, .int .u8 0] 341))):=(Kept.refl [] w).alloc _
 have hzs : (w.alloc (.cells #[.int .u8 0, .int .u8 0, .int .u8 0, .int .u8 0, .int .u8 0, .int .u8 0, .int .u8 0, .int .u8 0, .int .u8 0, .int .u8 0] 341)).heap.size = w.heap.size + 1:=by simp
 generalize w.alloc (.cells #[.int .u8 0, .int .u8 0, .int .u8 0, .int .u8 0, .int .u8 0, .int .u8 0, .int .u8 0, .int .u8 0, .int .u8 0, .int .u8 0] 341) = w1 at HZ0 HP1 HK1 hzs ⊢
 rw [hz] at HZ0 HC hzs hpl ⊢
 have HZZ:=lh hz
 clear hz
 refine wp_region_facts' 8 (RZ z) (vaF p z n k (.int .u64 x)) mixed (by kernel_rfl) (RZ.drew _ _) (fun _ _ _ h k => h.trans k) vaF_stable ?_ ?_
 ·refine ⟨?_, ?_, ?_, ?_, ?_, ?_, ?_, ?_, trivial⟩
  all_goals go_light
  all_goals intro a W hR hs hd
  all_goals have p0 : a.tmps[0]? = some (.pointer (some ⟨p, 0, none⟩)):=hs.2.2 0 (by decide)
  all_goals have p1 : a.tmps[1]? = some (.int .u64 x):=hs.2.2 1 (by decide)
  all_goals have p4 : a.tmps[4]? = some (.pointer (some ⟨z, 0, none⟩)):=hs.2.2 4 (by decide)
  all_goals have hRr:=RZ.refl z W
  all_goals have hP:=HP1.out.keep hR.1 (by simp; omega)
  all_goals have hc:=hP.cell
  ·refine ov W (.pointer (some ⟨p, 0, none⟩)) ?_ (.mk hRr rfl rfl)
   simp [go_sem, p0]
  ·have q0 : _ = _:=hd.1 rfl
   refine ov W (.pointer (some ⟨p, 0, none⟩)) ?_ (.mk hRr rfl rfl)
   simp [go_sem, q0]
  ·have q1 : _ = _:=hd.1 rfl
   refine ov W (.pointer (some ⟨p, 1, none⟩)) ?_ (.mk hRr rfl rfl)
   simp [go_sem, q1]
  ·have q2 : _ = _:=hd.1 rfl
   refine ov W (.int .i64 n) ?_ (.mk hRr rfl rfl)
   simp [go_sem, q2, hc]
  ·refine ov W (.slice (some ⟨z, 0, none⟩) 10 10) ?_ (.mk hRr rfl rfl)
   have hal : Tryz.prog.arrayLen 341 = 10:=by simp [Program.arrayLen, Tryz.underlying341]
   have hsl : (Instr.sliceAt 341 (.pointer (some ⟨z, 0, none⟩)) none none none).run Tryz.prog W = .ok (.slice (some ⟨z, 0, none⟩) 10 10) W:=by
    rw [run_sliceAt_array_all W 341 ⟨z, 0, none⟩ (by simp [Program.arrayLen, Program.elem, Tryz.underlying341])]
    simp [hal, slicedAt]
    kernel_rfl
   simp [go_sem, p4, hsl]
  ·refine ov W (.int .u64 x) ?_ (.mk hRr rfl rfl)
   simp [go_sem, p1]
  ·have q4 : _ = _:=hd.1 rfl
   have q5 : _ = _:=hd.2.1 rfl
   refine ow_call (w':=W) (f:=219) (args:=#[.slice (some ⟨z, 0, none⟩) 10 10, .int .u64 x]) (by simp [go_sem, q4, q5]) (HC.out W (hR.2 HZ0.out)) ?_
   rintro e w' ⟨rfl, hk⟩
   exact ⟨_, rfl, .mk hk rfl rfl⟩
  ·have q3 : _ = _:=hd.1 rfl
   have q6 : _ = _:=hd.2.1 rfl
   refine ov W (.int .i64 ((n + k : Nat) : Int)) ?_ (.mk hRr rfl rfl)
   have hw : IntKind.i64.wrap ((n : Int) + (k : Int)) = (n : Int) + (k : Int):=by rw [IntWalk.i64_left, IntWalk.wrap64_in _ (by omega)]
   simp [go_sem, q3, q6, hw]
 ·intro f W hR hf
  obtain ⟨f0, f1, f2, f3, f4, f5, f6, f7, -⟩:=hf
  change f 5 = _ at f0
  change f 6 = _ at f1
  change f 7 = _ at f2
  change f 8 = _ at f3
  change f 9 = _ at f4
  change f 10 = _ at f5
  change f 11 = _ at f6
  change f 12 = _ at f7
  simp only [headDsts, List.take_succ_cons, List.take_zero, List.filterMap_cons, List.filterMap_nil, setAll, f0, f1, f2, f3, f4, f5, f6, f7, List.setIfInBounds_toArray, List.set_cons_succ, List.set_cons_zero, List.drop_succ_cons, List.drop_zero]
  clear f0 f1 f2 f3 f4 f5 f6 f7 f
  have hP:=HP1.out.keep hR.1 (by simp; omega)
  have h1:=hP.cell
  have h2:=hP.frozen (o:=1)
  have HP2:=lh hP
  have HR:=lh hR
  clear hP hR
  go_wp2
  refine bodyPost_end (results_none rfl _ _ _) rfl ⟨rfl, HP2.out.set rfl, ?_⟩
  exact ((HK1.out.mono (by simp)).trans HR.out.1 (fun x hx => .inr (by rw [List.mem_singleton.1 hx, HZZ.out]; exact Nat.le_refl _))).trans (kept_set _ _ _ _) (fun x hx => .inl hx)
theorem eq_nil (W : World) (t : TypeId) (e : TypeId) (ht : Tryz.prog.underlying t = some (.slice e)) (a : Option Addr) (l c : Nat) : (binOp .eql t (.slice a l c) (.slice none 0 0)).run Tryz.prog W = .ok (.bool a.isNone) W:=by
 simp only [binOp]
 simp [run_equal_slice_nil W t e a l c ht]
theorem PrepU.trans {p : Nat} {st : Value} {m : Nat} {w w1 w2 : World} {e : Ending} (k : Kept [p] w w1) (h : PrepU p st m w1 e w2) : PrepU p st m w e w2:=⟨h.1, h.2.1, k.trans h.2.2 (fun _x hx => .inl hx)⟩
theorem PrepN.trans {p : Nat} {st : Value} {m : Nat} {w w1 w2 : World} {e : Ending} (k : Kept [p] w w1) (h : PrepN p st m w1 e w2) : PrepN p st m w e w2:=⟨h.1, h.2.1, k.trans h.2.2 (fun _x hx => .inl hx)⟩
theorem prep_bytes (p n : Nat) (st : Value) (w : World) (h : PrepAt p st n w) (hn : n ≤ 100000000) (A : Option Addr) (m c : Nat) (hm : m ≤ 100000000) (hA : A ≠ none) : Calls Tryz.prog 203 #[.pointer (some ⟨p, 0, none⟩), .slice A m c] w (PrepN p st (n + (4 + m)) w):=by
 obtain ⟨a, rfl⟩ : ∃ a, A = some a:=by cases A with | none => exact absurd rfl hA | some a => exact ⟨a, rfl⟩
 have h1:=h.cell
 have h2:=h.frozen (o:=1)
 have HR:=lh (prep_raw p (n + 4) st (w.setCell ⟨p, 1, none⟩ (.int .i64 ((n : Int) + 4))) (h.set (by go_num)) (by omega) (some a) m c (by omega))
 clear h hA
 have heq:=fun (W : World) (a : Option Addr) (l c : Nat) => eq_nil W 34 5 Tryz.underlying34 a l c
 go_enter Tryz.func203, Tryz.ntmps203
 go_wp2_with ((with_reducible refine HR.out.mono ?_); rintro e w2 ⟨rfl, hp, hk⟩; have HP:=lh hp; have HK:=lh hk; clear hp hk)
 go_ret
 exact ⟨rfl, by rw [← Nat.add_assoc]; exact HP.out, (kept_set _ _ _ _).trans HK.out (fun x hx => .inl hx)⟩
theorem prep_nil (p n : Nat) (st : Value) (w : World) (h : PrepAt p st n w) (hn : n ≤ 100000000) (c : Nat) : Calls Tryz.prog 203 #[.pointer (some ⟨p, 0, none⟩), .slice none 0 c] w (PrepN p st (n + 4) w):=by
 have h1:=h.cell
 have h2:=h.frozen (o:=1)
 have H:=lh h
 clear h
 have heq:=fun (W : World) (a : Option Addr) (l c : Nat) => eq_nil W 34 5 Tryz.underlying34 a l c
 go_enter Tryz.func203, Tryz.ntmps203
 go_wp2
 go_ret
 exact ⟨rfl, H.out.set (by go_num), kept_set _ _ _ _⟩
theorem prep_varbytes (p n : Nat) (st : Value) (w : World) (h : PrepAt p st n w) (hn : n ≤ 100000000) (a : Addr) (m c : Nat) (hm : m ≤ 100000000) : Calls Tryz.prog 218 #[.pointer (some ⟨p, 0, none⟩), .slice (some a) m c] w (PrepN p st (n + ((Lib.uvarint (Lib.zigzag (m : Int))).length + m)) w):=by
 have hl:=Lib.uvarint_length64 (zigzag_lt (x:=(m : Int)) (by omega) (by omega))
 have HV:=lh (prep_varint p n st w h (by omega) (m : Int) (by omega) (by omega))
 obtain ⟨k, hk⟩ : ∃ k, (Lib.uvarint (Lib.zigzag (m : Int))).length = k:=⟨_, rfl⟩
 rw [hk] at hl HV ⊢
 have HR : Hid (∀ W, PrepAt p st (n + k) W → Calls Tryz.prog 213 #[.pointer (some ⟨p, 0, none⟩), .slice (some a) m c] W (PrepN p st (n + k + m) W)):=fun W hW => prep_raw p (n + k) st W hW (by omega) (some a) m c (by omega)
 clear h hk
 have heq:=fun (W : World) (a : Option Addr) (l c : Nat) => eq_nil W 34 5 Tryz.underlying34 a l c
 go_enter Tryz.func218, Tryz.ntmps218
 go_wp2_with (first
  | ((with_reducible refine HV.out.mono ?_); rintro e w1 ⟨rfl, hp1, hk1⟩; have HP1:=lh hp1; have HK1:=lh hk1; clear hp1 hk1)
  | ((with_reducible refine (HR.out _ HP1.out).mono ?_); rintro e w2 ⟨rfl, hp, hk⟩; have HP:=lh hp; have HK:=lh hk; clear hp hk))
 go_ret
 exact ⟨rfl, by rw [← Nat.add_assoc]; exact HP.out, HK1.out.trans HK.out (fun x hx => .inl hx)⟩
theorem prep_varnil (p n : Nat) (st : Value) (w : World) (h : PrepAt p st n w) (hn : n ≤ 100000000) (c : Nat) : Calls Tryz.prog 218 #[.pointer (some ⟨p, 0, none⟩), .slice none 0 c] w (PrepN p st (n + (Lib.uvarint (Lib.zigzag (-1))).length) w):=by
 have HV:=lh (prep_varint p n st w h (by omega) (-1) (by omega) (by omega))
 clear h
 have heq:=fun (W : World) (a : Option Addr) (l c : Nat) => eq_nil W 34 5 Tryz.underlying34 a l c
 go_enter Tryz.func218, Tryz.ntmps218
 go_wp2_with ((with_reducible refine HV.out.mono ?_); rintro e w1 ⟨rfl, hp1, hk1⟩; have HP1:=lh hp1; have HK1:=lh hk1; clear hp1 hk1)
 go_ret
 exact ⟨rfl, HP1.out, HK1.out⟩
theorem prep_nullstr (p n : Nat) (st : Value) (w : World) (h : PrepAt p st n w) (hn : n ≤ 100000000) : Calls Tryz.prog 212 #[.pointer (some ⟨p, 0, none⟩), .pointer none] w (PrepN p st (n + 2) w):=by
 have h1:=h.cell
 have h2:=h.frozen (o:=1)
 have H:=lh h
 clear h
 go_enter Tryz.func212, Tryz.ntmps212
 go_wp2
 go_ret
 exact ⟨rfl, H.out.set (by go_num), kept_set _ _ _ _⟩
theorem prep_somestr (p n : Nat) (st : Value) (w : World) (h : PrepAt p st n w) (hn : n ≤ 100000000) (a : Addr) (s : ByteArray) (hs : s.size ≤ 32767) (ha : w.cell? a = some (.string s)) : Calls Tryz.prog 212 #[.pointer (some ⟨p, 0, none⟩), .pointer (some a)] w (PrepN p st (n + (2 + s.size)) w):=by
 have HS:=lh (prep_string p n st w h (by omega) s hs)
 clear h
 go_enter Tryz.func212, Tryz.ntmps212
 go_wp2_with ((with_reducible refine HS.out.mono ?_); rintro e w1 ⟨rfl, hp1, hk1⟩; have HP1:=lh hp1; have HK1:=lh hk1; clear hp1 hk1)
 go_ret
 exact ⟨rfl, HP1.out, HK1.out⟩
end Go.Proofs.YtmpjikihnmagoaaGreatDoor
