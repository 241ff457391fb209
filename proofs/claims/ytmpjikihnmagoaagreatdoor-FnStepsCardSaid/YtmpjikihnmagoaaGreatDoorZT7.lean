/-
  The reading decoder in memory; numbers read. Conditions: the bytes at hand begin with the number's form.
-/
import Derived.Test.YtmpjikihnmagoaaGreatDoorZT6
set_option maxRecDepth 100000
set_option maxHeartbeats 1600000
namespace Go.Proofs.YtmpjikihnmagoaaGreatDoor
open Go.RowKit
/-- The reading decoder as it lies in memory: what has been read, what is left. -/
def DecAt (p : Nat) (A : Option Addr) (c : Nat) (st : Value) (pre rest : List UInt8) (w : World) : Prop :=
 w.heap[p]? = some (.cells #[.slice A (pre.length + rest.length) c, .int .i64 pre.length, st] 151 (0, 0)) ∧ SlIs w 1 A (pre.length + rest.length) (Lib.byteCells (pre ++ rest)) ∧ pre.length + rest.length ≤ c ∧ pre.length + rest.length ≤ 1000000 ∧ ∀ a, A = some a → a.block ≠ p
theorem DecAt.cell0 {p c : Nat} {A : Option Addr} {st : Value} {pre rest : List UInt8} {w : World} (h : DecAt p A c st pre rest w) : w.cell? ⟨p, 0, none⟩ = some (.slice A (pre.length + rest.length) c):=by
 have:=h.1
 simp [World.cell?, this]
theorem DecAt.cell1 {p c : Nat} {A : Option Addr} {st : Value} {pre rest : List UInt8} {w : World} (h : DecAt p A c st pre rest w) : w.cell? ⟨p, 1, none⟩ = some (.int .i64 pre.length):=by
 have:=h.1
 simp [World.cell?, this]
theorem DecAt.frozen {p c o : Nat} {A : Option Addr} {st : Value} {pre rest : List UInt8} {w : World} (h : DecAt p A c st pre rest w) : w.frozen? ⟨p, o, none⟩ = false:=by
 have:=h.1
 simp [World.frozen?, this]
theorem DecAt.keep {p c : Nat} {A : Option Addr} {st : Value} {pre rest : List UInt8} {S : List Nat} {w w' : World} (h : DecAt p A c st pre rest w) (k : Kept S w w') (hp : p ∉ S) (hA : ∀ a, A = some a → a.block ∉ S) : DecAt p A c st pre rest w' :=
 ⟨k.heap h.1 hp, h.2.1.kept k hA, h.2.2⟩
theorem DecAt.keep0 {p c : Nat} {A : Option Addr} {st : Value} {pre rest : List UInt8} {w w' : World} (h : DecAt p A c st pre rest w) (k : Kept [] w w') : DecAt p A c st pre rest w':=h.keep k (by simp) (by simp)
/-- The place is moved on. -/
theorem DecAt.move {p c : Nat} {A : Option Addr} {st : Value} {pre f rest : List UInt8} {w : World} {v : Value} (h : DecAt p A c st pre (f ++ rest) w) (hv : v = .int .i64 ((pre.length + f.length : Nat) : Int)) : DecAt p A c st (pre ++ f) rest (w.setCell ⟨p, 1, none⟩ v):=by
 subst hv
 obtain ⟨h1, h2, h3, h4, h5⟩:=h
 rw [List.length_append] at h1 h2 h3 h4
 refine ⟨?_, ?_, by rw [List.length_append]; omega, by rw [List.length_append]; omega, h5⟩
 ·rw [heap_setCell_same _ _ _ _ _ _ h1, List.length_append, show pre.length + f.length + rest.length = pre.length + (f.length + rest.length) by omega]
  rfl
 ·rw [List.length_append, List.append_assoc, show pre.length + f.length + rest.length = pre.length + (f.length + rest.length) by omega]
  exact h2.kept (kept_set p 1 _ _) (fun a ha => by simpa using h5 a ha)
/-- A byte that is at hand. -/
theorem DecAt.byte {p c : Nat} {A : Option Addr} {st : Value} {pre rest : List UInt8} {w : World} (h : DecAt p A c st pre rest w) (hr : 0 < rest.length) : ∃ g o, A = some ⟨g, o, none⟩ ∧ g ≠ p ∧ ∀ j b, rest[j]? = some b → w.cell? ⟨g, o + pre.length + j, none⟩ = some (.int .u8 (b.toNat : Int)):=by
 obtain ⟨-, h2, -, -, h5⟩:=h
 obtain ⟨g, o, hA, hc⟩:=h2.2.2 (by omega)
 refine ⟨g, o, hA, h5 _ hA, fun j b hj => ?_⟩
 rw [Nat.add_assoc]
 refine hc (pre.length + j) _ ?_
 simp only [Lib.byteCells, List.getElem?_map]
 rw [List.getElem?_append_right (by omega), show pre.length + j - pre.length = j by omega, hj]
 rfl
/-- A value has been read, and no error. -/
def DecR (p : Nat) (A : Option Addr) (c : Nat) (st : Value) (v : Value) (pre rest : List UInt8) (w : World) (e : Ending) (w' : World) : Prop:=e = .returned (.tuple #[v, .nilIface]) ∧ DecAt p A c st pre rest w' ∧ Kept [p] w w'
/-- The bytes at hand from a place on. -/
theorem dec_from (W : World) (g o n N c : Nat) (h : n < N) (hc : N ≤ c) : (Instr.sliceAt 34 (.slice (some ⟨g, o, none⟩) N c) (some (.int .i64 (n : Int))) none none).run Tryz.prog W = .ok (.slice (some ⟨g, o + n, none⟩) (N - n) (c - n)) W:=by
 rw [run_sliceAt_slice (P:=Tryz.prog) (w:=W) 34 _ _ _ _ elem34, run_slice_l (P:=Tryz.prog) (w:=W) 34 _ _ _ elem34 _ _ (by omega) (by omega)]
 have hs : (sizeOf (Tryz.prog.elem 34)).run Tryz.prog W = .ok 1 W:=by kernel_rfl
 rw [hs]
 simp only [Result.andThen, sliced, Int.toNat_natCast]
 rw [if_neg (by omega)]
 simp [Addr.add]
def remF (p : Nat) (A : Option Addr) (c : Nat) (pre rest : List UInt8) (ix : Nat) (v : Value) (_ : World) : Prop :=
 match ix with
 | 0 => v = .pointer (some ⟨p, 0, none⟩)
 | 1 => v = .pointer (some ⟨p, 0, none⟩)
 | 2 => v = .pointer (some ⟨p, 0, none⟩)
 | 3 => v = .slice A (pre.length + rest.length) c
 | 4 => v = .int .i64 ((pre.length + rest.length : Nat) : Int)
 | 5 => v = .pointer (some ⟨p, 0, none⟩)
 | 6 => v = .pointer (some ⟨p, 0, none⟩)
 | 7 => v = .pointer (some ⟨p, 1, none⟩)
 | 8 => v = .int .i64 pre.length
 | 9 => v = .int .i64 rest.length
 | _ => True
theorem remF_stable {p A c pre rest} : ∀ ix v w w', remF p A c pre rest ix v w → Kept [] w w' → remF p A c pre rest ix v w':=by
 intro ix v w w' h k
 unfold remF at h ⊢
 split at h <;> (first | (exact h))
theorem dec_remaining (p c : Nat) (A : Option Addr) (st : Value) (pre rest : List UInt8) (w : World) (h : DecAt p A c st pre rest w) : Calls Tryz.prog 172 #[.pointer (some ⟨p, 0, none⟩)] w fun e w' => e = .returned (.int .i64 rest.length) ∧ Kept [] w w':=by
 have H:=lh h
 have hb:=h.2.2.2.1
 clear h
 go_enter Tryz.func172, Tryz.ntmps172
 go_wp2
 refine wp_region_facts' 10 (Kept []) (remF p A c pre rest) mixed (by kernel_rfl) (Kept.refl _ _).drew (fun _ _ _ h k => h.trans k (fun x hx => .inl hx)) remF_stable ?_ ?_
 ·refine ⟨?_, ?_, ?_, ?_, ?_, ?_, ?_, ?_, ?_, ?_, trivial⟩
  all_goals go_light
  all_goals intro a W hR hs hd
  all_goals have p0 : a.tmps[0]? = some (.pointer (some ⟨p, 0, none⟩)):=hs.2.2 0 (by decide)
  all_goals have hRr:=Kept.refl [] W
  all_goals have hc0 : W.cell? ⟨p, 0, none⟩ = _:=hR.cell H.out.cell0 (by simp)
  all_goals have hc1 : W.cell? ⟨p, 1, none⟩ = _:=hR.cell H.out.cell1 (by simp)
  all_goals have hsub : IntKind.i64.wrap ((pre.length : Int) + (rest.length : Int) - (pre.length : Int)) = (rest.length : Int):=by rw [show (pre.length : Int) + (rest.length : Int) - (pre.length : Int) = (rest.length : Int) by omega, IntWalk.i64_in _ (by omega)]
  ·refine ov W (.pointer (some ⟨p, 0, none⟩)) ?_ (.mk hRr rfl rfl)
   simp [go_sem, p0]
  ·have q0 : _ = _:=hd.1 rfl
   refine ov W (.pointer (some ⟨p, 0, none⟩)) ?_ (.mk hRr rfl rfl)
   simp [go_sem, q0]
  ·have q1 : _ = _:=hd.1 rfl
   refine ov W (.pointer (some ⟨p, 0, none⟩)) ?_ (.mk hRr rfl rfl)
   simp [go_sem, q1]
  ·have q2 : _ = _:=hd.1 rfl
   refine ov W (.slice A (pre.length + rest.length) c) ?_ (.mk hRr rfl rfl)
   simp [go_sem, q2, hc0]
  ·have q3 : _ = _:=hd.1 rfl
   refine ov W (.int .i64 ((pre.length + rest.length : Nat) : Int)) ?_ (.mk hRr rfl rfl)
   simp [go_sem, q3]
  ·refine ov W (.pointer (some ⟨p, 0, none⟩)) ?_ (.mk hRr rfl rfl)
   simp [go_sem, p0]
  ·have q5 : _ = _:=hd.1 rfl
   refine ov W (.pointer (some ⟨p, 0, none⟩)) ?_ (.mk hRr rfl rfl)
   simp [go_sem, q5]
  ·have q6 : _ = _:=hd.1 rfl
   refine ov W (.pointer (some ⟨p, 1, none⟩)) ?_ (.mk hRr rfl rfl)
   simp [go_sem, q6]
  ·have q7 : _ = _:=hd.1 rfl
   refine ov W (.int .i64 pre.length) ?_ (.mk hRr rfl rfl)
   simp [go_sem, q7, hc1]
  ·have q4 : _ = _:=hd.1 rfl
   have q8 : _ = _:=hd.2.1 rfl
   refine ov W (.int .i64 rest.length) ?_ (.mk hRr rfl rfl)
   simp [go_sem, q4, q8, hsub]
 ·intro f W hR hf
  obtain ⟨f0, f1, f2, f3, f4, f5, f6, f7, f8, f9, -⟩:=hf
  change f 3 = _ at f0
  change f 4 = _ at f1
  change f 5 = _ at f2
  change f 6 = _ at f3
  change f 7 = _ at f4
  change f 8 = _ at f5
  change f 9 = _ at f6
  change f 10 = _ at f7
  change f 11 = _ at f8
  change f 12 = _ at f9
  simp only [headDsts, List.take_succ_cons, List.take_zero, List.filterMap_cons, List.filterMap_nil, setAll, f0, f1, f2, f3, f4, f5, f6, f7, f8, f9, List.setIfInBounds_toArray, List.set_cons_succ, List.set_cons_zero, List.drop_succ_cons, List.drop_zero]
  clear f0 f1 f2 f3 f4 f5 f6 f7 f8 f9 f
  go_wp2
  go_ret
  exact ⟨rfl, hR⟩
theorem list_get! {l : List UInt8} {n : Nat} (h : l.length = n) : l = (List.range n).map (fun j => l[j]!):=by
 apply List.ext_getElem
 ·simp [h]
 ·intro i h1 h2
  simp only [List.getElem_map, List.getElem_range]
  rw [getElem!_pos l i h1]
theorem beNat_mod2 {x : Int} : Lib.beNat (big 2 x) = u64 x % 65536:=by
 have h : big 2 x = Lib.beBytes 2 (u64 x % 256 ^ 2):=(beBytes_mod 2 (u64 x)).symm
 rw [h, Lib.beNat_beBytes 2 _ (Nat.mod_lt _ (by decide))]
theorem beNat_mod4 {x : Int} : Lib.beNat (big 4 x) = u64 x % 4294967296:=by
 have h : big 4 x = Lib.beBytes 4 (u64 x % 256 ^ 4):=(beBytes_mod 4 (u64 x)).symm
 rw [h, Lib.beNat_beBytes 4 _ (Nat.mod_lt _ (by decide))]
theorem sig16 {x : Int} (h : fitsB 16 x) : IntKind.i16.wrap ((u64 x % 65536 : Nat) : Int) = x:=by
 have h1:=h.1
 have h2:=h.2
 simp at h1 h2
 unfold IntKind.wrap u64
 simp [IntKind.bits, IntKind.signed]
 omega
theorem sig32 {x : Int} (h : fitsB 32 x) : IntKind.i32.wrap ((u64 x % 4294967296 : Nat) : Int) = x:=by
 have h1:=h.1
 have h2:=h.2
 simp at h1 h2
 unfold IntKind.wrap u64
 simp [IntKind.bits, IntKind.signed]
 omega
theorem sig64 {x : Int} (h0 : -9223372036854775808 ≤ x) (h1 : x ≤ 9223372036854775807) : IntKind.i64.wrap ((u64 x : Nat) : Int) = x:=by
 unfold IntKind.wrap u64
 simp [IntKind.bits, IntKind.signed]
 omega
def dec_int16F (p g o N c : Nat) (pre : List UInt8) (ix : Nat) (v : Value) (_ : World) : Prop :=
 match ix with
 | 0 => v = .agg #[]
 | 1 => v = .pointer (some ⟨p, 0, none⟩)
 | 2 => v = .pointer (some ⟨p, 0, none⟩)
 | 3 => v = .pointer (some ⟨p, 0, none⟩)
 | 4 => v = .slice (some ⟨g, o, none⟩) N c
 | 5 => v = .pointer (some ⟨p, 0, none⟩)
 | 6 => v = .pointer (some ⟨p, 0, none⟩)
 | 7 => v = .pointer (some ⟨p, 1, none⟩)
 | 8 => v = .int .i64 pre.length
 | 9 => v = .slice (some ⟨g, o + pre.length, none⟩) (N - pre.length) (c - pre.length)
 | _ => True
theorem dec_int16F_stable {p g o N c pre} : ∀ ix v w w', dec_int16F p g o N c pre ix v w → Kept [] w w' → dec_int16F p g o N c pre ix v w':=by
 intro ix v w w' h k
 unfold dec_int16F at h ⊢
 split at h <;> (first | (exact h))
theorem dec_int16 (p c : Nat) (A : Option Addr) (st : Value) (pre rest : List UInt8) (w : World) (x : Int) (hx : fitsB 16 x) (h : DecAt p A c st pre (big 2 x ++ rest) w) : Calls Tryz.prog 156 #[.pointer (some ⟨p, 0, none⟩)] w (DecR p A c st (.int .i16 x) (pre ++ big 2 x) rest w):=by
 have H:=lh h
 have hrl : (big 2 x ++ rest).length = 2 + rest.length:=by rw [List.length_append, big_len]
 obtain ⟨g, o, rfl, hgp, hbyte⟩:=h.byte (by omega)
 have hN:=h.2.2.2.1
 have hNc:=h.2.2.1
 have HREM:=lh (fun (W : World) (hk : Kept [] w W) => dec_remaining p c _ st pre _ W (h.keep0 hk))
 obtain ⟨M, hM⟩ : ∃ M, (big 2 x ++ rest).length = M:=⟨_, rfl⟩
 obtain ⟨N, hNN⟩ : ∃ N, pre.length + (big 2 x ++ rest).length = N:=⟨_, rfl⟩
 have hM4 : ¬ ((M : Int) < 2):=by omega
 have HC0 : Hid (w.cell? ⟨p, 0, none⟩ = some (.slice (some ⟨g, o, none⟩) N c)):=by unfold Hid; rw [h.cell0, hNN]
 have HBY:=lh hbyte
 have HM4 : Hid (2 ≤ M):=by unfold Hid; omega
 have HLEN : Hid ((big 2 x).length = 2):=big_len _ _
 rw [hNN] at hN hNc
 have hNp : pre.length + 2 ≤ N:=by omega
 rw [hM] at HREM
 have HCONV:=lh (sig16 hx)
 clear h hbyte hrl hM hNN
 go_enter Tryz.func156, Tryz.ntmps156
 go_wp2_with ((with_reducible refine (HREM.out _ (Kept.refl _ _)).mono ?_); rintro e w1 ⟨rfl, hk⟩; have HK1:=lh hk; clear hk)
 refine wp_region_facts' 10 (Kept []) (dec_int16F p g o N c pre) mixed (by kernel_rfl) (Kept.refl _ _).drew (fun _ _ _ h k => h.trans k (fun x hx => .inl hx)) dec_int16F_stable ?_ ?_
 ·refine ⟨?_, ?_, ?_, ?_, ?_, ?_, ?_, ?_, ?_, ?_, trivial⟩
  all_goals go_light
  all_goals intro a W hR hs hd
  all_goals have p0 : a.tmps[0]? = some (.pointer (some ⟨p, 0, none⟩)):=hs.2.2 0 (by decide)
  all_goals have hRr:=Kept.refl [] W
  all_goals have hkk : Kept [] w W:=HK1.out.trans hR (fun x hx => .inl hx)
  all_goals have hc0 : W.cell? ⟨p, 0, none⟩ = _:=hkk.cell HC0.out (by simp)
  all_goals have hc1 : W.cell? ⟨p, 1, none⟩ = _:=hkk.cell H.out.cell1 (by simp)
  all_goals have hsl:=dec_from W g o pre.length N c (by omega) hNc
  ·refine ov W (.agg #[]) ?_ (.mk hRr rfl rfl)
   simp [go_sem]
  ·refine ov W (.pointer (some ⟨p, 0, none⟩)) ?_ (.mk hRr rfl rfl)
   simp [go_sem, p0]
  ·have q1 : _ = _:=hd.1 rfl
   refine ov W (.pointer (some ⟨p, 0, none⟩)) ?_ (.mk hRr rfl rfl)
   simp [go_sem, q1]
  ·have q2 : _ = _:=hd.1 rfl
   refine ov W (.pointer (some ⟨p, 0, none⟩)) ?_ (.mk hRr rfl rfl)
   simp [go_sem, q2]
  ·have q3 : _ = _:=hd.1 rfl
   refine ov W (.slice (some ⟨g, o, none⟩) N c) ?_ (.mk hRr rfl rfl)
   simp [go_sem, q3, hc0]
  ·refine ov W (.pointer (some ⟨p, 0, none⟩)) ?_ (.mk hRr rfl rfl)
   simp [go_sem, p0]
  ·have q5 : _ = _:=hd.1 rfl
   refine ov W (.pointer (some ⟨p, 0, none⟩)) ?_ (.mk hRr rfl rfl)
   simp [go_sem, q5]
  ·have q6 : _ = _:=hd.1 rfl
   refine ov W (.pointer (some ⟨p, 1, none⟩)) ?_ (.mk hRr rfl rfl)
   simp [go_sem, q6]
  ·have q7 : _ = _:=hd.1 rfl
   refine ov W (.int .i64 pre.length) ?_ (.mk hRr rfl rfl)
   simp [go_sem, q7, hc1]
  ·have q4 : _ = _:=hd.1 rfl
   have q8 : _ = _:=hd.2.1 rfl
   refine ov W (.slice (some ⟨g, o + pre.length, none⟩) (N - pre.length) (c - pre.length)) ?_ (.mk hRr rfl rfl)
   simp [go_sem, q4, q8, hsl]
 ·intro f W hR hf
  obtain ⟨f0, f1, f2, f3, f4, f5, f6, f7, f8, f9, -⟩:=hf
  change f 17 = _ at f0
  change f 18 = _ at f1
  change f 19 = _ at f2
  change f 20 = _ at f3
  change f 21 = _ at f4
  change f 22 = _ at f5
  change f 23 = _ at f6
  change f 24 = _ at f7
  change f 25 = _ at f8
  change f 26 = _ at f9
  simp only [headDsts, List.take_succ_cons, List.take_zero, List.filterMap_cons, List.filterMap_nil, setAll, f0, f1, f2, f3, f4, f5, f6, f7, f8, f9, List.setIfInBounds_toArray, List.set_cons_succ, List.set_cons_zero, List.drop_succ_cons, List.drop_zero]
  clear f0 f1 f2 f3 f4 f5 f6 f7 f8 f9 f
  have hkk : Kept [] w W:=HK1.out.trans hR (fun x hx => .inl hx)
  have hd:=H.out.keep0 hkk
  have hbl : big 2 x = [(big 2 x)[0]!, (big 2 x)[1]!]:=list_get! (big_len 2 x)
  have hcb : ∀ j, j < 2 → W.cell? ⟨g, o + pre.length + j, none⟩ = some (.int .u8 (((big 2 x)[j]!).toNat : Int)):=fun j hj => by
   refine hkk.cell (HBY.out j _ ?_) (by simp)
   have hlt : j < (big 2 x).length:=by rw [big_len]; exact hj
   rw [List.getElem?_append_left hlt, List.getElem?_eq_getElem hlt, getElem!_pos (big 2 x) j hlt]
  have hget:=Tryz.binary_BE_Uint16 g (o + pre.length) (N - pre.length) (c - pre.length) (big 2 x)[0]! (big 2 x)[1]! W (by omega) (hcb 0 (by omega)) (hcb 1 (by omega))
  rw [← hbl, beNat_mod2] at hget
  obtain ⟨nv, hnv⟩ : ∃ nv : Nat, (u64 x % 65536) = nv:=⟨_, rfl⟩
  rw [hnv] at hget HCONV
  have HG:=lh hget
  have HKK:=lh hkk
  have HNV:=lh hnv
  have hconv:=HCONV.out
  clear hget hcb hbl hd hkk hR hnv
  go_wp2_with ((with_reducible refine HG.out.mono ?_); rintro e W2 ⟨rfl, hbe⟩; have hk2:=HKK.out.trans (Kept.of_below hbe) (fun x hx => .inl hx); have hc1 : W2.cell? ⟨p, 1, none⟩ = _:=hk2.cell H.out.cell1 (by simp); have hf1 : W2.frozen? ⟨p, 1, none⟩ = false:=(H.out.keep0 hk2).frozen; have HD:=lh (H.out.keep0 hk2); have HK2:=lh hk2; clear hbe hk2)
  refine bodyPost_ret (results_tmp2 rfl _ _ _) rfl ⟨rfl, HD.out.move (by rw [HLEN.out]; go_num), ?_⟩
  exact (HK2.out.mono (by simp)).trans (kept_set _ _ _ _) (fun x hx => .inl hx)
def dec_int32F (p g o N c : Nat) (pre : List UInt8) (ix : Nat) (v : Value) (_ : World) : Prop :=
 match ix with
 | 0 => v = .agg #[]
 | 1 => v = .pointer (some ⟨p, 0, none⟩)
 | 2 => v = .pointer (some ⟨p, 0, none⟩)
 | 3 => v = .pointer (some ⟨p, 0, none⟩)
 | 4 => v = .slice (some ⟨g, o, none⟩) N c
 | 5 => v = .pointer (some ⟨p, 0, none⟩)
 | 6 => v = .pointer (some ⟨p, 0, none⟩)
 | 7 => v = .pointer (some ⟨p, 1, none⟩)
 | 8 => v = .int .i64 pre.length
 | 9 => v = .slice (some ⟨g, o + pre.length, none⟩) (N - pre.length) (c - pre.length)
 | _ => True
theorem dec_int32F_stable {p g o N c pre} : ∀ ix v w w', dec_int32F p g o N c pre ix v w → Kept [] w w' → dec_int32F p g o N c pre ix v w':=by
 intro ix v w w' h k
 unfold dec_int32F at h ⊢
 split at h <;> (first | (exact h))
theorem dec_int32 (p c : Nat) (A : Option Addr) (st : Value) (pre rest : List UInt8) (w : World) (x : Int) (hx : fitsB 32 x) (h : DecAt p A c st pre (big 4 x ++ rest) w) : Calls Tryz.prog 157 #[.pointer (some ⟨p, 0, none⟩)] w (DecR p A c st (.int .i32 x) (pre ++ big 4 x) rest w):=by
 have H:=lh h
 have hrl : (big 4 x ++ rest).length = 4 + rest.length:=by rw [List.length_append, big_len]
 obtain ⟨g, o, rfl, hgp, hbyte⟩:=h.byte (by omega)
 have hN:=h.2.2.2.1
 have hNc:=h.2.2.1
 have HREM:=lh (fun (W : World) (hk : Kept [] w W) => dec_remaining p c _ st pre _ W (h.keep0 hk))
 obtain ⟨M, hM⟩ : ∃ M, (big 4 x ++ rest).length = M:=⟨_, rfl⟩
 obtain ⟨N, hNN⟩ : ∃ N, pre.length + (big 4 x ++ rest).length = N:=⟨_, rfl⟩
 have hM4 : ¬ ((M : Int) < 4):=by omega
 have HC0 : Hid (w.cell? ⟨p, 0, none⟩ = some (.slice (some ⟨g, o, none⟩) N c)):=by unfold Hid; rw [h.cell0, hNN]
 have HBY:=lh hbyte
 have HM4 : Hid (4 ≤ M):=by unfold Hid; omega
 have HLEN : Hid ((big 4 x).length = 4):=big_len _ _
 rw [hNN] at hN hNc
 have hNp : pre.length + 4 ≤ N:=by omega
 rw [hM] at HREM
 have HCONV:=lh (sig32 hx)
 clear h hbyte hrl hM hNN
 go_enter Tryz.func157, Tryz.ntmps157
 go_wp2_with ((with_reducible refine (HREM.out _ (Kept.refl _ _)).mono ?_); rintro e w1 ⟨rfl, hk⟩; have HK1:=lh hk; clear hk)
 refine wp_region_facts' 10 (Kept []) (dec_int32F p g o N c pre) mixed (by kernel_rfl) (Kept.refl _ _).drew (fun _ _ _ h k => h.trans k (fun x hx => .inl hx)) dec_int32F_stable ?_ ?_
 ·refine ⟨?_, ?_, ?_, ?_, ?_, ?_, ?_, ?_, ?_, ?_, trivial⟩
  all_goals go_light
  all_goals intro a W hR hs hd
  all_goals have p0 : a.tmps[0]? = some (.pointer (some ⟨p, 0, none⟩)):=hs.2.2 0 (by decide)
  all_goals have hRr:=Kept.refl [] W
  all_goals have hkk : Kept [] w W:=HK1.out.trans hR (fun x hx => .inl hx)
  all_goals have hc0 : W.cell? ⟨p, 0, none⟩ = _:=hkk.cell HC0.out (by simp)
  all_goals have hc1 : W.cell? ⟨p, 1, none⟩ = _:=hkk.cell H.out.cell1 (by simp)
  all_goals have hsl:=dec_from W g o pre.length N c (by omega) hNc
  ·refine ov W (.agg #[]) ?_ (.mk hRr rfl rfl)
   simp [go_sem]
  ·refine ov W (.pointer (some ⟨p, 0, none⟩)) ?_ (.mk hRr rfl rfl)
   simp [go_sem, p0]
  ·have q1 : _ = _:=hd.1 rfl
   refine ov W (.pointer (some ⟨p, 0, none⟩)) ?_ (.mk hRr rfl rfl)
   simp [go_sem, q1]
  ·have q2 : _ = _:=hd.1 rfl
   refine ov W (.pointer (some ⟨p, 0, none⟩)) ?_ (.mk hRr rfl rfl)
   simp [go_sem, q2]
  ·have q3 : _ = _:=hd.1 rfl
   refine ov W (.slice (some ⟨g, o, none⟩) N c) ?_ (.mk hRr rfl rfl)
   simp [go_sem, q3, hc0]
  ·refine ov W (.pointer (some ⟨p, 0, none⟩)) ?_ (.mk hRr rfl rfl)
   simp [go_sem, p0]
  ·have q5 : _ = _:=hd.1 rfl
   refine ov W (.pointer (some ⟨p, 0, none⟩)) ?_ (.mk hRr rfl rfl)
   simp [go_sem, q5]
  ·have q6 : _ = _:=hd.1 rfl
   refine ov W (.pointer (some ⟨p, 1, none⟩)) ?_ (.mk hRr rfl rfl)
   simp [go_sem, q6]
  ·have q7 : _ = _:=hd.1 rfl
   refine ov W (.int .i64 pre.length) ?_ (.mk hRr rfl rfl)
   simp [go_sem, q7, hc1]
  ·have q4 : _ = _:=hd.1 rfl
   have q8 : _ = _:=hd.2.1 rfl
   refine ov W (.slice (some ⟨g, o + pre.length, none⟩) (N - pre.length) (c - pre.length)) ?_ (.mk hRr rfl rfl)
   simp [go_sem, q4, q8, hsl]
 ·intro f W hR hf
  obtain ⟨f0, f1, f2, f3, f4, f5, f6, f7, f8, f9, -⟩:=hf
  change f 17 = _ at f0
  change f 18 = _ at f1
  change f 19 = _ at f2
  change f 20 = _ at f3
  change f 21 = _ at f4
  change f 22 = _ at f5
  change f 23 = _ at f6
  change f 24 = _ at f7
  change f 25 = _ at f8
  change f 26 = _ at f9
  simp only [headDsts, List.take_succ_cons, List.take_zero, List.filterMap_cons, List.filterMap_nil, setAll, f0, f1, f2, f3, f4, f5, f6, f7, f8, f9, List.setIfInBounds_toArray, List.set_cons_succ, List.set_cons_zero, List.drop_succ_cons, List.drop_zero]
  clear f0 f1 f2 f3 f4 f5 f6 f7 f8 f9 f
  have hkk : Kept [] w W:=HK1.out.trans hR (fun x hx => .inl hx)
  have hd:=H.out.keep0 hkk
  have hbl : big 4 x = [(big 4 x)[0]!, (big 4 x)[1]!, (big 4 x)[2]!, (big 4 x)[3]!]:=list_get! (big_len 4 x)
  have hcb : ∀ j, j < 4 → W.cell? ⟨g, o + pre.length + j, none⟩ = some (.int .u8 (((big 4 x)[j]!).toNat : Int)):=fun j hj => by
   refine hkk.cell (HBY.out j _ ?_) (by simp)
   have hlt : j < (big 4 x).length:=by rw [big_len]; exact hj
   rw [List.getElem?_append_left hlt, List.getElem?_eq_getElem hlt, getElem!_pos (big 4 x) j hlt]
  have hget:=Tryz.binary_BE_Uint32 g (o + pre.length) (N - pre.length) (c - pre.length) (big 4 x)[0]! (big 4 x)[1]! (big 4 x)[2]! (big 4 x)[3]! W (by omega) (hcb 0 (by omega)) (hcb 1 (by omega)) (hcb 2 (by omega)) (hcb 3 (by omega))
  rw [← hbl, beNat_mod4] at hget
  obtain ⟨nv, hnv⟩ : ∃ nv : Nat, (u64 x % 4294967296) = nv:=⟨_, rfl⟩
  rw [hnv] at hget HCONV
  have HG:=lh hget
  have HKK:=lh hkk
  have HNV:=lh hnv
  have hconv:=HCONV.out
  clear hget hcb hbl hd hkk hR hnv
  go_wp2_with ((with_reducible refine HG.out.mono ?_); rintro e W2 ⟨rfl, hbe⟩; have hk2:=HKK.out.trans (Kept.of_below hbe) (fun x hx => .inl hx); have hc1 : W2.cell? ⟨p, 1, none⟩ = _:=hk2.cell H.out.cell1 (by simp); have hf1 : W2.frozen? ⟨p, 1, none⟩ = false:=(H.out.keep0 hk2).frozen; have HD:=lh (H.out.keep0 hk2); have HK2:=lh hk2; clear hbe hk2)
  refine bodyPost_ret (results_tmp2 rfl _ _ _) rfl ⟨rfl, HD.out.move (by rw [HLEN.out]; go_num), ?_⟩
  exact (HK2.out.mono (by simp)).trans (kept_set _ _ _ _) (fun x hx => .inl hx)
def dec_int64F (p g o N c : Nat) (pre : List UInt8) (ix : Nat) (v : Value) (_ : World) : Prop :=
 match ix with
 | 0 => v = .agg #[]
 | 1 => v = .pointer (some ⟨p, 0, none⟩)
 | 2 => v = .pointer (some ⟨p, 0, none⟩)
 | 3 => v = .pointer (some ⟨p, 0, none⟩)
 | 4 => v = .slice (some ⟨g, o, none⟩) N c
 | 5 => v = .pointer (some ⟨p, 0, none⟩)
 | 6 => v = .pointer (some ⟨p, 0, none⟩)
 | 7 => v = .pointer (some ⟨p, 1, none⟩)
 | 8 => v = .int .i64 pre.length
 | 9 => v = .slice (some ⟨g, o + pre.length, none⟩) (N - pre.length) (c - pre.length)
 | _ => True
theorem dec_int64F_stable {p g o N c pre} : ∀ ix v w w', dec_int64F p g o N c pre ix v w → Kept [] w w' → dec_int64F p g o N c pre ix v w':=by
 intro ix v w w' h k
 unfold dec_int64F at h ⊢
 split at h <;> (first | (exact h))
theorem dec_int64 (p c : Nat) (A : Option Addr) (st : Value) (pre rest : List UInt8) (w : World) (x : Int) (h0 : -9223372036854775808 ≤ x) (h1 : x ≤ 9223372036854775807) (h : DecAt p A c st pre (big 8 x ++ rest) w) : Calls Tryz.prog 159 #[.pointer (some ⟨p, 0, none⟩)] w (DecR p A c st (.int .i64 x) (pre ++ big 8 x) rest w):=by
 have H:=lh h
 have hrl : (big 8 x ++ rest).length = 8 + rest.length:=by rw [List.length_append, big_len]
 obtain ⟨g, o, rfl, hgp, hbyte⟩:=h.byte (by omega)
 have hN:=h.2.2.2.1
 have hNc:=h.2.2.1
 have HREM:=lh (fun (W : World) (hk : Kept [] w W) => dec_remaining p c _ st pre _ W (h.keep0 hk))
 obtain ⟨M, hM⟩ : ∃ M, (big 8 x ++ rest).length = M:=⟨_, rfl⟩
 obtain ⟨N, hNN⟩ : ∃ N, pre.length + (big 8 x ++ rest).length = N:=⟨_, rfl⟩
 have hM4 : ¬ ((M : Int) < 8):=by omega
 have HC0 : Hid (w.cell? ⟨p, 0, none⟩ = some (.slice (some ⟨g, o, none⟩) N c)):=by unfold Hid; rw [h.cell0, hNN]
 have HBY:=lh hbyte
 have HM4 : Hid (8 ≤ M):=by unfold Hid; omega
 have HLEN : Hid ((big 8 x).length = 8):=big_len _ _
 rw [hNN] at hN hNc
 have hNp : pre.length + 8 ≤ N:=by omega
 rw [hM] at HREM
 have HCONV:=lh (sig64 h0 h1)
 clear h hbyte hrl hM hNN
 go_enter Tryz.func159, Tryz.ntmps159
 go_wp2_with ((with_reducible refine (HREM.out _ (Kept.refl _ _)).mono ?_); rintro e w1 ⟨rfl, hk⟩; have HK1:=lh hk; clear hk)
 refine wp_region_facts' 10 (Kept []) (dec_int64F p g o N c pre) mixed (by kernel_rfl) (Kept.refl _ _).drew (fun _ _ _ h k => h.trans k (fun x hx => .inl hx)) dec_int64F_stable ?_ ?_
 ·refine ⟨?_, ?_, ?_, ?_, ?_, ?_, ?_, ?_, ?_, ?_, trivial⟩
  all_goals go_light
  all_goals intro a W hR hs hd
  all_goals have p0 : a.tmps[0]? = some (.pointer (some ⟨p, 0, none⟩)):=hs.2.2 0 (by decide)
  all_goals have hRr:=Kept.refl [] W
  all_goals have hkk : Kept [] w W:=HK1.out.trans hR (fun x hx => .inl hx)
  all_goals have hc0 : W.cell? ⟨p, 0, none⟩ = _:=hkk.cell HC0.out (by simp)
  all_goals have hc1 : W.cell? ⟨p, 1, none⟩ = _:=hkk.cell H.out.cell1 (by simp)
  all_goals have hsl:=dec_from W g o pre.length N c (by omega) hNc
  ·refine ov W (.agg #[]) ?_ (.mk hRr rfl rfl)
   simp [go_sem]
  ·refine ov W (.pointer (some ⟨p, 0, none⟩)) ?_ (.mk hRr rfl rfl)
   simp [go_sem, p0]
  ·have q1 : _ = _:=hd.1 rfl
   refine ov W (.pointer (some ⟨p, 0, none⟩)) ?_ (.mk hRr rfl rfl)
   simp [go_sem, q1]
  ·have q2 : _ = _:=hd.1 rfl
   refine ov W (.pointer (some ⟨p, 0, none⟩)) ?_ (.mk hRr rfl rfl)
   simp [go_sem, q2]
  ·have q3 : _ = _:=hd.1 rfl
   refine ov W (.slice (some ⟨g, o, none⟩) N c) ?_ (.mk hRr rfl rfl)
   simp [go_sem, q3, hc0]
  ·refine ov W (.pointer (some ⟨p, 0, none⟩)) ?_ (.mk hRr rfl rfl)
   simp [go_sem, p0]
  ·have q5 : _ = _:=hd.1 rfl
   refine ov W (.pointer (some ⟨p, 0, none⟩)) ?_ (.mk hRr rfl rfl)
   simp [go_sem, q5]
  ·have q6 : _ = _:=hd.1 rfl
   refine ov W (.pointer (some ⟨p, 1, none⟩)) ?_ (.mk hRr rfl rfl)
   simp [go_sem, q6]
  ·have q7 : _ = _:=hd.1 rfl
   refine ov W (.int .i64 pre.length) ?_ (.mk hRr rfl rfl)
   simp [go_sem, q7, hc1]
  ·have q4 : _ = _:=hd.1 rfl
   have q8 : _ = _:=hd.2.1 rfl
   refine ov W (.slice (some ⟨g, o + pre.length, none⟩) (N - pre.length) (c - pre.length)) ?_ (.mk hRr rfl rfl)
   simp [go_sem, q4, q8, hsl]
 ·intro f W hR hf
  obtain ⟨f0, f1, f2, f3, f4, f5, f6, f7, f8, f9, -⟩:=hf
  change f 17 = _ at f0
  change f 18 = _ at f1
  change f 19 = _ at f2
  change f 20 = _ at f3
  change f 21 = _ at f4
  change f 22 = _ at f5
  change f 23 = _ at f6
  change f 24 = _ at f7
  change f 25 = _ at f8
  change f 26 = _ at f9
  simp only [headDsts, List.take_succ_cons, List.take_zero, List.filterMap_cons, List.filterMap_nil, setAll, f0, f1, f2, f3, f4, f5, f6, f7, f8, f9, List.setIfInBounds_toArray, List.set_cons_succ, List.set_cons_zero, List.drop_succ_cons, List.drop_zero]
  clear f0 f1 f2 f3 f4 f5 f6 f7 f8 f9 f
  have hkk : Kept [] w W:=HK1.out.trans hR (fun x hx => .inl hx)
  have hd:=H.out.keep0 hkk
  have hbl : big 8 x = [(big 8 x)[0]!, (big 8 x)[1]!, (big 8 x)[2]!, (big 8 x)[3]!, (big 8 x)[4]!, (big 8 x)[5]!, (big 8 x)[6]!, (big 8 x)[7]!]:=list_get! (big_len 8 x)
  have hcb : ∀ j, j < 8 → W.cell? ⟨g, o + pre.length + j, none⟩ = some (.int .u8 (((big 8 x)[j]!).toNat : Int)):=fun j hj => by
   refine hkk.cell (HBY.out j _ ?_) (by simp)
   have hlt : j < (big 8 x).length:=by rw [big_len]; exact hj
   rw [List.getElem?_append_left hlt, List.getElem?_eq_getElem hlt, getElem!_pos (big 8 x) j hlt]
  have hget:=Tryz.binary_BE_Uint64 g (o + pre.length) (N - pre.length) (c - pre.length) (big 8 x)[0]! (big 8 x)[1]! (big 8 x)[2]! (big 8 x)[3]! (big 8 x)[4]! (big 8 x)[5]! (big 8 x)[6]! (big 8 x)[7]! W (by omega) (hcb 0 (by omega)) (hcb 1 (by omega)) (hcb 2 (by omega)) (hcb 3 (by omega)) (hcb 4 (by omega)) (hcb 5 (by omega)) (hcb 6 (by omega)) (hcb 7 (by omega))
  rw [← hbl, beNat_big (u64_lt x)] at hget
  obtain ⟨nv, hnv⟩ : ∃ nv : Nat, (u64 x) = nv:=⟨_, rfl⟩
  rw [hnv] at hget HCONV
  have HG:=lh hget
  have HKK:=lh hkk
  have HNV:=lh hnv
  have hconv:=HCONV.out
  clear hget hcb hbl hd hkk hR hnv
  go_wp2_with ((with_reducible refine HG.out.mono ?_); rintro e W2 ⟨rfl, hbe⟩; have hk2:=HKK.out.trans (Kept.of_below hbe) (fun x hx => .inl hx); have hc1 : W2.cell? ⟨p, 1, none⟩ = _:=hk2.cell H.out.cell1 (by simp); have hf1 : W2.frozen? ⟨p, 1, none⟩ = false:=(H.out.keep0 hk2).frozen; have HD:=lh (H.out.keep0 hk2); have HK2:=lh hk2; clear hbe hk2)
  refine bodyPost_ret (results_tmp2 rfl _ _ _) rfl ⟨rfl, HD.out.move (by rw [HLEN.out]; go_num), ?_⟩
  exact (HK2.out.mono (by simp)).trans (kept_set _ _ _ _) (fun x hx => .inl hx)
end Go.Proofs.YtmpjikihnmagoaaGreatDoor
/-
 The reading decoder: bytes, booleans, floats, lengths of lists, varints, raw bytes. Conditions: the bytes at hand begin with the form.
-/
namespace Go.Proofs.YtmpjikihnmagoaaGreatDoor
open Go.RowKit
theorem sig8 {x : Int} (h : fitsB 8 x) : IntKind.i8.wrap (((u64 x % 256).toUInt8.toNat : Nat) : Int) = x:=by
 have h1:=h.1
 have h2:=h.2
 simp at h1 h2
 rw [Lib.toUInt8_mod]
 unfold IntKind.wrap u64
 simp [IntKind.bits, IntKind.signed]
 omega
/-- A part of the bytes at hand. -/
theorem dec_sub {p c : Nat} {a : Addr} {st : Value} {pre f rest : List UInt8} {w : World} (h : DecAt p (some a) c st pre (f ++ rest) w) (N : Nat) (hN : pre.length + (f ++ rest).length = N) :
  ∃ b : Addr, b.block = a.block ∧ SlIs w 1 (some b) f.length (Lib.byteCells f) ∧ (∀ W : World, (Instr.sliceAt 34 (.slice (some a) N c) (some (.int .i64 (pre.length : Int))) (some (.int .i64 ((pre.length : Int) + (f.length : Int)))) none).run Tryz.prog W = .ok (.slice (some b) f.length (c - pre.length)) W) ∧ (∀ j x, f[j]? = some x → w.cell? (b.add j) = some (.int .u8 (x.toNat : Int))):=by
 have hN1:=h.2.2.1
 have hN2:=h.2.2.2.1
 have hfl : (f ++ rest).length = f.length + rest.length:=List.length_append
 obtain ⟨b, hb⟩ : ∃ b : Addr, (if c = pre.length then some a else Option.map (·.add (pre.length * 1)) (some a)) = some b:=by
  split
  ·exact ⟨_, rfl⟩
  ·exact ⟨_, rfl⟩
 have hbl : b.block = a.block:=by
  split at hb
  ·cases hb; rfl
  ·simp only [Option.map_some, Option.some.injEq] at hb
   rw [← hb]
   unfold Addr.add
   split <;> rfl
 have hsl : SlIs w 1 (some b) f.length (Lib.byteCells f):=by
  refine ⟨by rw [Lib.byteCells_length, Nat.mul_one], by omega, fun hpos => ?_⟩
  obtain ⟨g, q, hga, -, hby⟩:=h.byte (by omega)
  cases hga
  rw [if_neg (by omega)] at hb
  have hb2 : b = ⟨g, q + pre.length, none⟩:=by
   simp only [Option.map_some, Option.some.injEq] at hb
   rw [← hb]
   simp [Addr.add]
  refine ⟨g, q + pre.length, by rw [hb2], fun i v hv => ?_⟩
  simp only [Lib.byteCells, List.getElem?_map, Option.map_eq_some_iff] at hv
  obtain ⟨x, hx, rfl⟩:=hv
  refine hby i x ?_
  rw [List.getElem?_append_left (List.getElem?_eq_some_iff.1 hx).1, hx]
 refine ⟨b, hbl, hsl, fun W => ?_, fun j x hx => ?_⟩
 ·rw [run_sliceAt_slice (P:=Tryz.prog) (w:=W) 34 _ _ _ _ elem34, run_slice_lh (P:=Tryz.prog) (w:=W) 34 _ _ _ elem34 _ _ _ _ (by omega) (by omega) (by omega)]
  have hs : (sizeOf (Tryz.prog.elem 34)).run Tryz.prog W = .ok 1 W:=by kernel_rfl
  rw [hs]
  simp only [Result.andThen, sliced, Int.toNat_natCast, show ((pre.length : Int) + (f.length : Int)).toNat = pre.length + f.length by omega, hb, show pre.length + f.length - pre.length = f.length by omega]
 ·obtain ⟨g, q, hga, hc⟩:=hsl.2.2 (by have:=(List.getElem?_eq_some_iff.1 hx).1; omega)
  cases hga
  rw [show (⟨g, q, none⟩ : Addr).add j = ⟨g, q + j, none⟩ from by unfold Addr.add; split <;> simp_all]
  exact hc j _ (by simp [Lib.byteCells, hx])
def dec_int8F (p g o N c : Nat) (pre : List UInt8) (nv : Nat) (x : Int) (ix : Nat) (v : Value) (_ : World) : Prop :=
 match ix with
 | 0 => v = .pointer (some ⟨p, 0, none⟩)
 | 1 => v = .pointer (some ⟨p, 0, none⟩)
 | 2 => v = .pointer (some ⟨p, 0, none⟩)
 | 3 => v = .slice (some ⟨g, o, none⟩) N c
 | 4 => v = .pointer (some ⟨p, 0, none⟩)
 | 5 => v = .pointer (some ⟨p, 0, none⟩)
 | 6 => v = .pointer (some ⟨p, 1, none⟩)
 | 7 => v = .int .i64 pre.length
 | 8 => v = .pointer (some ⟨g, o + pre.length, none⟩)
 | 9 => v = .int .u8 (nv : Nat)
 | 10 => v = .int .i8 x
 | _ => True
theorem dec_int8F_stable {p g o N c pre nv x} : ∀ ix v w w', dec_int8F p g o N c pre nv x ix v w → Kept [] w w' → dec_int8F p g o N c pre nv x ix v w':=by
 intro ix v w w' h k
 unfold dec_int8F at h ⊢
 split at h <;> (first | (exact h))
theorem dec_int8 (p c : Nat) (A : Option Addr) (st : Value) (pre rest : List UInt8) (w : World) (x : Int) (hx : fitsB 8 x) (h : DecAt p A c st pre (big 1 x ++ rest) w) : Calls Tryz.prog 161 #[.pointer (some ⟨p, 0, none⟩)] w (DecR p A c st (.int .i8 x) (pre ++ big 1 x) rest w):=by
 have H:=lh h
 have hrl : (big 1 x ++ rest).length = 1 + rest.length:=by rw [List.length_append, big_len]
 obtain ⟨g, o, rfl, hgp, hbyte⟩:=h.byte (by omega)
 have hN:=h.2.2.2.1
 have hNc:=h.2.2.1
 have HREM:=lh (fun (W : World) (hk : Kept [] w W) => dec_remaining p c _ st pre _ W (h.keep0 hk))
 obtain ⟨M, hM⟩ : ∃ M, (big 1 x ++ rest).length = M:=⟨_, rfl⟩
 obtain ⟨N, hNN⟩ : ∃ N, pre.length + (big 1 x ++ rest).length = N:=⟨_, rfl⟩
 have hM4 : ¬ ((M : Int) < 1):=by omega
 have HC0 : Hid (w.cell? ⟨p, 0, none⟩ = some (.slice (some ⟨g, o, none⟩) N c)):=by unfold Hid; rw [h.cell0, hNN]
 have HBY : Hid (w.cell? ⟨g, o + pre.length, none⟩ = some (.int .u8 (((u64 x % 256).toUInt8.toNat : Nat) : Int))):=hbyte 0 _ (by rw [big_one]; rfl)
 have HLEN : Hid ((big 1 x).length = 1):=big_len _ _
 rw [hNN] at hN hNc
 have hlt : (pre.length : Int) < (N : Int):=by omega
 rw [hM] at HREM
 have HCONV:=lh (sig8 hx)
 obtain ⟨nv, hnv⟩ : ∃ nv : Nat, (u64 x % 256).toUInt8.toNat = nv:=⟨_, rfl⟩
 rw [hnv] at HCONV HBY
 have hconv:=HCONV.out
 clear h hbyte hrl hM hNN hnv
 go_enter Tryz.func161, Tryz.ntmps161
 go_wp2_with ((with_reducible refine (HREM.out _ (Kept.refl _ _)).mono ?_); rintro e w1 ⟨rfl, hk⟩; have HK1:=lh hk; clear hk)
 refine wp_region_facts' 11 (Kept []) (dec_int8F p g o N c pre nv x) mixed (by kernel_rfl) (Kept.refl _ _).drew (fun _ _ _ h k => h.trans k (fun x hx => .inl hx)) dec_int8F_stable ?_ ?_
 ·refine ⟨?_, ?_, ?_, ?_, ?_, ?_, ?_, ?_, ?_, ?_, ?_, trivial⟩
  all_goals go_light
  all_goals intro a W hR hs hd
  all_goals have p0 : a.tmps[0]? = some (.pointer (some ⟨p, 0, none⟩)):=hs.2.2 0 (by decide)
  all_goals have hRr:=Kept.refl [] W
  all_goals have hkk : Kept [] w W:=HK1.out.trans hR (fun x hx => .inl hx)
  all_goals have hc0 : W.cell? ⟨p, 0, none⟩ = _:=hkk.cell HC0.out (by simp)
  all_goals have hc1 : W.cell? ⟨p, 1, none⟩ = _:=hkk.cell H.out.cell1 (by simp)
  all_goals have hcb : W.cell? ⟨g, o + pre.length, none⟩ = _:=hkk.cell HBY.out (by simp)
  ·refine ov W (.pointer (some ⟨p, 0, none⟩)) ?_ (.mk hRr rfl rfl)
   simp [go_sem, p0]
  ·have q0 : _ = _:=hd.1 rfl
   refine ov W (.pointer (some ⟨p, 0, none⟩)) ?_ (.mk hRr rfl rfl)
   simp [go_sem, q0]
  ·have q1 : _ = _:=hd.1 rfl
   refine ov W (.pointer (some ⟨p, 0, none⟩)) ?_ (.mk hRr rfl rfl)
   simp [go_sem, q1]
  ·have q2 : _ = _:=hd.1 rfl
   refine ov W (.slice (some ⟨g, o, none⟩) N c) ?_ (.mk hRr rfl rfl)
   simp [go_sem, q2, hc0]
  ·refine ov W (.pointer (some ⟨p, 0, none⟩)) ?_ (.mk hRr rfl rfl)
   simp [go_sem, p0]
  ·have q4 : _ = _:=hd.1 rfl
   refine ov W (.pointer (some ⟨p, 0, none⟩)) ?_ (.mk hRr rfl rfl)
   simp [go_sem, q4]
  ·have q5 : _ = _:=hd.1 rfl
   refine ov W (.pointer (some ⟨p, 1, none⟩)) ?_ (.mk hRr rfl rfl)
   simp [go_sem, q5]
  ·have q6 : _ = _:=hd.1 rfl
   refine ov W (.int .i64 pre.length) ?_ (.mk hRr rfl rfl)
   simp [go_sem, q6, hc1]
  ·have q3 : _ = _:=hd.1 rfl
   have q7 : _ = _:=hd.2.1 rfl
   refine ov W (.pointer (some ⟨g, o + pre.length, none⟩)) ?_ (.mk hRr rfl rfl)
   simp [go_sem, q3, q7, hlt]
  ·have q8 : _ = _:=hd.1 rfl
   refine ov W (.int .u8 (nv : Nat)) ?_ (.mk hRr rfl rfl)
   simp [go_sem, q8, hcb]
  ·have q9 : _ = _:=hd.1 rfl
   refine ov W (.int .i8 x) ?_ (.mk hRr rfl rfl)
   simp [go_sem, q9, hconv]
 ·intro f W hR hf
  obtain ⟨f0, f1, f2, f3, f4, f5, f6, f7, f8, f9, f10, -⟩:=hf
  change f 17 = _ at f0
  change f 18 = _ at f1
  change f 19 = _ at f2
  change f 20 = _ at f3
  change f 21 = _ at f4
  change f 22 = _ at f5
  change f 23 = _ at f6
  change f 24 = _ at f7
  change f 25 = _ at f8
  change f 26 = _ at f9
  change f 27 = _ at f10
  simp only [headDsts, List.take_succ_cons, List.take_zero, List.filterMap_cons, List.filterMap_nil, setAll, f0, f1, f2, f3, f4, f5, f6, f7, f8, f9, f10, List.setIfInBounds_toArray, List.set_cons_succ, List.set_cons_zero, List.drop_succ_cons, List.drop_zero]
  clear f0 f1 f2 f3 f4 f5 f6 f7 f8 f9 f10 f
  have hk2 : Kept [] w W:=HK1.out.trans hR (fun x hx => .inl hx)
  have hc1 : W.cell? ⟨p, 1, none⟩ = _:=hk2.cell H.out.cell1 (by simp)
  have hf1 : W.frozen? ⟨p, 1, none⟩ = false:=(H.out.keep0 hk2).frozen
  have HD:=lh (H.out.keep0 hk2)
  have HK2:=lh hk2
  clear hk2 hR
  go_wp2
  refine bodyPost_ret (results_tmp2 rfl _ _ _) rfl ⟨rfl, HD.out.move (by rw [HLEN.out]; go_num), ?_⟩
  exact (HK2.out.mono (by simp)).trans (kept_set _ _ _ _) (fun x hx => .inl hx)
def dec_floatF (p g o N c : Nat) (pre : List UInt8) (ix : Nat) (v : Value) (_ : World) : Prop :=
 match ix with
 | 0 => v = .agg #[]
 | 1 => v = .pointer (some ⟨p, 0, none⟩)
 | 2 => v = .pointer (some ⟨p, 0, none⟩)
 | 3 => v = .pointer (some ⟨p, 0, none⟩)
 | 4 => v = .slice (some ⟨g, o, none⟩) N c
 | 5 => v = .pointer (some ⟨p, 0, none⟩)
 | 6 => v = .pointer (some ⟨p, 0, none⟩)
 | 7 => v = .pointer (some ⟨p, 1, none⟩)
 | 8 => v = .int .i64 pre.length
 | 9 => v = .slice (some ⟨g, o + pre.length, none⟩) (N - pre.length) (c - pre.length)
 | _ => True
theorem dec_floatF_stable {p g o N c pre} : ∀ ix v w w', dec_floatF p g o N c pre ix v w → Kept [] w w' → dec_floatF p g o N c pre ix v w':=by
 intro ix v w w' h k
 unfold dec_floatF at h ⊢
 split at h <;> (first | (exact h))
theorem dec_float (p c : Nat) (A : Option Addr) (st : Value) (pre rest : List UInt8) (w : World) (x : Int) (h : DecAt p A c st pre (big 8 x ++ rest) w) : Calls Tryz.prog 155 #[.pointer (some ⟨p, 0, none⟩)] w (DecR p A c st (.float .f64 (u64 x)) (pre ++ big 8 x) rest w):=by
 have H:=lh h
 have hrl : (big 8 x ++ rest).length = 8 + rest.length:=by rw [List.length_append, big_len]
 obtain ⟨g, o, rfl, hgp, hbyte⟩:=h.byte (by omega)
 have hN:=h.2.2.2.1
 have hNc:=h.2.2.1
 have HREM:=lh (fun (W : World) (hk : Kept [] w W) => dec_remaining p c _ st pre _ W (h.keep0 hk))
 obtain ⟨M, hM⟩ : ∃ M, (big 8 x ++ rest).length = M:=⟨_, rfl⟩
 obtain ⟨N, hNN⟩ : ∃ N, pre.length + (big 8 x ++ rest).length = N:=⟨_, rfl⟩
 have hM4 : ¬ ((M : Int) < 8):=by omega
 have HC0 : Hid (w.cell? ⟨p, 0, none⟩ = some (.slice (some ⟨g, o, none⟩) N c)):=by unfold Hid; rw [h.cell0, hNN]
 have HBY:=lh hbyte
 have HM4 : Hid (8 ≤ M):=by unfold Hid; omega
 have HLEN : Hid ((big 8 x).length = 8):=big_len _ _
 rw [hNN] at hN hNc
 have hNp : pre.length + 8 ≤ N:=by omega
 rw [hM] at HREM
 have HCONV:=lh (fun (w : World) => (frombits90 ((u64 x : Nat) : Int) w))
 simp only [Int.toNat_natCast] at HCONV
 clear h hbyte hrl hM hNN
 go_enter Tryz.func155, Tryz.ntmps155
 go_wp2_with ((with_reducible refine (HREM.out _ (Kept.refl _ _)).mono ?_); rintro e w1 ⟨rfl, hk⟩; have HK1:=lh hk; clear hk)
 refine wp_region_facts' 10 (Kept []) (dec_floatF p g o N c pre) mixed (by kernel_rfl) (Kept.refl _ _).drew (fun _ _ _ h k => h.trans k (fun x hx => .inl hx)) dec_floatF_stable ?_ ?_
 ·refine ⟨?_, ?_, ?_, ?_, ?_, ?_, ?_, ?_, ?_, ?_, trivial⟩
  all_goals go_light
  all_goals intro a W hR hs hd
  all_goals have p0 : a.tmps[0]? = some (.pointer (some ⟨p, 0, none⟩)):=hs.2.2 0 (by decide)
  all_goals have hRr:=Kept.refl [] W
  all_goals have hkk : Kept [] w W:=HK1.out.trans hR (fun x hx => .inl hx)
  all_goals have hc0 : W.cell? ⟨p, 0, none⟩ = _:=hkk.cell HC0.out (by simp)
  all_goals have hc1 : W.cell? ⟨p, 1, none⟩ = _:=hkk.cell H.out.cell1 (by simp)
  all_goals have hsl:=dec_from W g o pre.length N c (by omega) hNc
  ·refine ov W (.agg #[]) ?_ (.mk hRr rfl rfl)
   simp [go_sem]
  ·refine ov W (.pointer (some ⟨p, 0, none⟩)) ?_ (.mk hRr rfl rfl)
   simp [go_sem, p0]
  ·have q1 : _ = _:=hd.1 rfl
   refine ov W (.pointer (some ⟨p, 0, none⟩)) ?_ (.mk hRr rfl rfl)
   simp [go_sem, q1]
  ·have q2 : _ = _:=hd.1 rfl
   refine ov W (.pointer (some ⟨p, 0, none⟩)) ?_ (.mk hRr rfl rfl)
   simp [go_sem, q2]
  ·have q3 : _ = _:=hd.1 rfl
   refine ov W (.slice (some ⟨g, o, none⟩) N c) ?_ (.mk hRr rfl rfl)
   simp [go_sem, q3, hc0]
  ·refine ov W (.pointer (some ⟨p, 0, none⟩)) ?_ (.mk hRr rfl rfl)
   simp [go_sem, p0]
  ·have q5 : _ = _:=hd.1 rfl
   refine ov W (.pointer (some ⟨p, 0, none⟩)) ?_ (.mk hRr rfl rfl)
   simp [go_sem, q5]
  ·have q6 : _ = _:=hd.1 rfl
   refine ov W (.pointer (some ⟨p, 1, none⟩)) ?_ (.mk hRr rfl rfl)
   simp [go_sem, q6]
  ·have q7 : _ = _:=hd.1 rfl
   refine ov W (.int .i64 pre.length) ?_ (.mk hRr rfl rfl)
   simp [go_sem, q7, hc1]
  ·have q4 : _ = _:=hd.1 rfl
   have q8 : _ = _:=hd.2.1 rfl
   refine ov W (.slice (some ⟨g, o + pre.length, none⟩) (N - pre.length) (c - pre.length)) ?_ (.mk hRr rfl rfl)
   simp [go_sem, q4, q8, hsl]
 ·intro f W hR hf
  obtain ⟨f0, f1, f2, f3, f4, f5, f6, f7, f8, f9, -⟩:=hf
  change f 17 = _ at f0
  change f 18 = _ at f1
  change f 19 = _ at f2
  change f 20 = _ at f3
  change f 21 = _ at f4
  change f 22 = _ at f5
  change f 23 = _ at f6
  change f 24 = _ at f7
  change f 25 = _ at f8
  change f 26 = _ at f9
  simp only [headDsts, List.take_succ_cons, List.take_zero, List.filterMap_cons, List.filterMap_nil, setAll, f0, f1, f2, f3, f4, f5, f6, f7, f8, f9, List.setIfInBounds_toArray, List.set_cons_succ, List.set_cons_zero, List.drop_succ_cons, List.drop_zero]
  clear f0 f1 f2 f3 f4 f5 f6 f7 f8 f9 f
  have hkk : Kept [] w W:=HK1.out.trans hR (fun x hx => .inl hx)
  have hd:=H.out.keep0 hkk
  have hbl : big 8 x = [(big 8 x)[0]!, (big 8 x)[1]!, (big 8 x)[2]!, (big 8 x)[3]!, (big 8 x)[4]!, (big 8 x)[5]!, (big 8 x)[6]!, (big 8 x)[7]!]:=list_get! (big_len 8 x)
  have hcb : ∀ j, j < 8 → W.cell? ⟨g, o + pre.length + j, none⟩ = some (.int .u8 (((big 8 x)[j]!).toNat : Int)):=fun j hj => by
   refine hkk.cell (HBY.out j _ ?_) (by simp)
   have hlt : j < (big 8 x).length:=by rw [big_len]; exact hj
   rw [List.getElem?_append_left hlt, List.getElem?_eq_getElem hlt, getElem!_pos (big 8 x) j hlt]
  have hget:=Tryz.binary_BE_Uint64 g (o + pre.length) (N - pre.length) (c - pre.length) (big 8 x)[0]! (big 8 x)[1]! (big 8 x)[2]! (big 8 x)[3]! (big 8 x)[4]! (big 8 x)[5]! (big 8 x)[6]! (big 8 x)[7]! W (by omega) (hcb 0 (by omega)) (hcb 1 (by omega)) (hcb 2 (by omega)) (hcb 3 (by omega)) (hcb 4 (by omega)) (hcb 5 (by omega)) (hcb 6 (by omega)) (hcb 7 (by omega))
  rw [← hbl, beNat_big (u64_lt x)] at hget
  obtain ⟨nv, hnv⟩ : ∃ nv : Nat, (u64 x) = nv:=⟨_, rfl⟩
  rw [hnv] at hget HCONV
  have HG:=lh hget
  have HKK:=lh hkk
  have HNV:=lh hnv
  have hconv:=HCONV.out
  clear hget hcb hbl hd hkk hR hnv
  go_wp2_with ((with_reducible refine HG.out.mono ?_); rintro e W2 ⟨rfl, hbe⟩; have hk2:=HKK.out.trans (Kept.of_below hbe) (fun x hx => .inl hx); have hc1 : W2.cell? ⟨p, 1, none⟩ = _:=hk2.cell H.out.cell1 (by simp); have hf1 : W2.frozen? ⟨p, 1, none⟩ = false:=(H.out.keep0 hk2).frozen; have HD:=lh (H.out.keep0 hk2); have HK2:=lh hk2; clear hbe hk2)
  refine bodyPost_ret (results_tmp2 rfl _ _ _) rfl ⟨by rw [HNV.out]; rfl, HD.out.move (by rw [HLEN.out]; go_num), ?_⟩
  exact (HK2.out.mono (by simp)).trans (kept_set _ _ _ _) (fun x hx => .inl hx)
def dec_arrlenF (p g o N c : Nat) (pre : List UInt8) (ix : Nat) (v : Value) (_ : World) : Prop :=
 match ix with
 | 0 => v = .agg #[]
 | 1 => v = .pointer (some ⟨p, 0, none⟩)
 | 2 => v = .pointer (some ⟨p, 0, none⟩)
 | 3 => v = .pointer (some ⟨p, 0, none⟩)
 | 4 => v = .slice (some ⟨g, o, none⟩) N c
 | 5 => v = .pointer (some ⟨p, 0, none⟩)
 | 6 => v = .pointer (some ⟨p, 0, none⟩)
 | 7 => v = .pointer (some ⟨p, 1, none⟩)
 | 8 => v = .int .i64 pre.length
 | 9 => v = .slice (some ⟨g, o + pre.length, none⟩) (N - pre.length) (c - pre.length)
 | _ => True
theorem dec_arrlenF_stable {p g o N c pre} : ∀ ix v w w', dec_arrlenF p g o N c pre ix v w → Kept [] w w' → dec_arrlenF p g o N c pre ix v w':=by
 intro ix v w w' h k
 unfold dec_arrlenF at h ⊢
 split at h <;> (first | (exact h))
theorem dec_arrlen (p c : Nat) (A : Option Addr) (st : Value) (pre rest : List UInt8) (w : World) (x : Int) (h0 : 0 ≤ x) (h1 : x ≤ rest.length) (h2 : x ≤ 1000000) (h : DecAt p A c st pre (big 4 x ++ rest) w) : Calls Tryz.prog 152 #[.pointer (some ⟨p, 0, none⟩)] w (DecR p A c st (.int .i64 x) (pre ++ big 4 x) rest w):=by
 have H:=lh h
 have hrl : (big 4 x ++ rest).length = 4 + rest.length:=by rw [List.length_append, big_len]
 obtain ⟨g, o, rfl, hgp, hbyte⟩:=h.byte (by omega)
 have hN:=h.2.2.2.1
 have hNc:=h.2.2.1
 have HREM:=lh (fun (W : World) (hk : Kept [] w W) => dec_remaining p c _ st pre _ W (h.keep0 hk))
 obtain ⟨M, hM⟩ : ∃ M, (big 4 x ++ rest).length = M:=⟨_, rfl⟩
 obtain ⟨N, hNN⟩ : ∃ N, pre.length + (big 4 x ++ rest).length = N:=⟨_, rfl⟩
 have hM4 : ¬ ((M : Int) < 4):=by omega
 have HC0 : Hid (w.cell? ⟨p, 0, none⟩ = some (.slice (some ⟨g, o, none⟩) N c)):=by unfold Hid; rw [h.cell0, hNN]
 have HBY:=lh hbyte
 have HM4 : Hid (4 ≤ M):=by unfold Hid; omega
 have HLEN : Hid ((big 4 x).length = 4):=big_len _ _
 rw [hNN] at hN hNc
 have hNp : pre.length + 4 ≤ N:=by omega
 rw [hM] at HREM
 have HCONV:=lh (sig32 (x:=x) ⟨by simp; omega, by simp; omega⟩)
 clear h hbyte hrl hM hNN
 go_enter Tryz.func152, Tryz.ntmps152
 go_wp2_with ((with_reducible refine (HREM.out _ (Kept.refl _ _)).mono ?_); rintro e w1 ⟨rfl, hk⟩; have HK1:=lh hk; clear hk)
 refine wp_region_facts' 10 (Kept []) (dec_arrlenF p g o N c pre) mixed (by kernel_rfl) (Kept.refl _ _).drew (fun _ _ _ h k => h.trans k (fun x hx => .inl hx)) dec_arrlenF_stable ?_ ?_
 ·refine ⟨?_, ?_, ?_, ?_, ?_, ?_, ?_, ?_, ?_, ?_, trivial⟩
  all_goals go_light
  all_goals intro a W hR hs hd
  all_goals have p0 : a.tmps[0]? = some (.pointer (some ⟨p, 0, none⟩)):=hs.2.2 0 (by decide)
  all_goals have hRr:=Kept.refl [] W
  all_goals have hkk : Kept [] w W:=HK1.out.trans hR (fun x hx => .inl hx)
  all_goals have hc0 : W.cell? ⟨p, 0, none⟩ = _:=hkk.cell HC0.out (by simp)
  all_goals have hc1 : W.cell? ⟨p, 1, none⟩ = _:=hkk.cell H.out.cell1 (by simp)
  all_goals have hsl:=dec_from W g o pre.length N c (by omega) hNc
  ·refine ov W (.agg #[]) ?_ (.mk hRr rfl rfl)
   simp [go_sem]
  ·refine ov W (.pointer (some ⟨p, 0, none⟩)) ?_ (.mk hRr rfl rfl)
   simp [go_sem, p0]
  ·have q1 : _ = _:=hd.1 rfl
   refine ov W (.pointer (some ⟨p, 0, none⟩)) ?_ (.mk hRr rfl rfl)
   simp [go_sem, q1]
  ·have q2 : _ = _:=hd.1 rfl
   refine ov W (.pointer (some ⟨p, 0, none⟩)) ?_ (.mk hRr rfl rfl)
   simp [go_sem, q2]
  ·have q3 : _ = _:=hd.1 rfl
   refine ov W (.slice (some ⟨g, o, none⟩) N c) ?_ (.mk hRr rfl rfl)
   simp [go_sem, q3, hc0]
  ·refine ov W (.pointer (some ⟨p, 0, none⟩)) ?_ (.mk hRr rfl rfl)
   simp [go_sem, p0]
  ·have q5 : _ = _:=hd.1 rfl
   refine ov W (.pointer (some ⟨p, 0, none⟩)) ?_ (.mk hRr rfl rfl)
   simp [go_sem, q5]
  ·have q6 : _ = _:=hd.1 rfl
   refine ov W (.pointer (some ⟨p, 1, none⟩)) ?_ (.mk hRr rfl rfl)
   simp [go_sem, q6]
  ·have q7 : _ = _:=hd.1 rfl
   refine ov W (.int .i64 pre.length) ?_ (.mk hRr rfl rfl)
   simp [go_sem, q7, hc1]
  ·have q4 : _ = _:=hd.1 rfl
   have q8 : _ = _:=hd.2.1 rfl
   refine ov W (.slice (some ⟨g, o + pre.length, none⟩) (N - pre.length) (c - pre.length)) ?_ (.mk hRr rfl rfl)
   simp [go_sem, q4, q8, hsl]
 ·intro f W hR hf
  obtain ⟨f0, f1, f2, f3, f4, f5, f6, f7, f8, f9, -⟩:=hf
  change f 17 = _ at f0
  change f 18 = _ at f1
  change f 19 = _ at f2
  change f 20 = _ at f3
  change f 21 = _ at f4
  change f 22 = _ at f5
  change f 23 = _ at f6
  change f 24 = _ at f7
  change f 25 = _ at f8
  change f 26 = _ at f9
  simp only [headDsts, List.take_succ_cons, List.take_zero, List.filterMap_cons, List.filterMap_nil, setAll, f0, f1, f2, f3, f4, f5, f6, f7, f8, f9, List.setIfInBounds_toArray, List.set_cons_succ, List.set_cons_zero, List.drop_succ_cons, List.drop_zero]
  clear f0 f1 f2 f3 f4 f5 f6 f7 f8 f9 f
  have hkk : Kept [] w W:=HK1.out.trans hR (fun x hx => .inl hx)
  have hd:=H.out.keep0 hkk
  have hbl : big 4 x = [(big 4 x)[0]!, (big 4 x)[1]!, (big 4 x)[2]!, (big 4 x)[3]!]:=list_get! (big_len 4 x)
  have hcb : ∀ j, j < 4 → W.cell? ⟨g, o + pre.length + j, none⟩ = some (.int .u8 (((big 4 x)[j]!).toNat : Int)):=fun j hj => by
   refine hkk.cell (HBY.out j _ ?_) (by simp)
   have hlt : j < (big 4 x).length:=by rw [big_len]; exact hj
   rw [List.getElem?_append_left hlt, List.getElem?_eq_getElem hlt, getElem!_pos (big 4 x) j hlt]
  have hget:=Tryz.binary_BE_Uint32 g (o + pre.length) (N - pre.length) (c - pre.length) (big 4 x)[0]! (big 4 x)[1]! (big 4 x)[2]! (big 4 x)[3]! W (by omega) (hcb 0 (by omega)) (hcb 1 (by omega)) (hcb 2 (by omega)) (hcb 3 (by omega))
  rw [← hbl, beNat_mod4] at hget
  obtain ⟨nv, hnv⟩ : ∃ nv : Nat, (u64 x % 4294967296) = nv:=⟨_, rfl⟩
  rw [hnv] at hget HCONV
  have HG:=lh hget
  have HKK:=lh hkk
  have HNV:=lh hnv
  have hconv:=HCONV.out
  clear hget hcb hbl hd hkk hR hnv
  have HREM2 : Hid (∀ W, DecAt p (some ⟨g, o, none⟩) c st (pre ++ big 4 x) rest W → Calls Tryz.prog 172 #[.pointer (some ⟨p, 0, none⟩)] W fun e w' => e = .returned (.int .i64 rest.length) ∧ Kept [] W w'):=fun W hW => dec_remaining p c _ st _ _ W hW
  go_wp2_with (first
  | ((with_reducible refine (HREM2.out _ (HD.out.move (by rw [HLEN.out]; go_num))).mono ?_); rintro e W3 ⟨rfl, hk⟩; have HD3:=lh ((HD.out.move (v:=.int .i64 ((pre.length : Int) + 4)) (by rw [HLEN.out]; go_num)).keep0 hk); have HK3:=lh (((HK2.out.mono (by simp)).trans (kept_set p 1 (.int .i64 ((pre.length : Int) + 4)) _) (fun x hx => .inl hx)).trans (hk.mono (by simp)) (fun x hx => .inl hx)); clear hk)
  | ((with_reducible refine HG.out.mono ?_); rintro e W2 ⟨rfl, hbe⟩; have hk2:=HKK.out.trans (Kept.of_below hbe) (fun x hx => .inl hx); have hc1 : W2.cell? ⟨p, 1, none⟩ = _:=hk2.cell H.out.cell1 (by simp); have hf1 : W2.frozen? ⟨p, 1, none⟩ = false:=(H.out.keep0 hk2).frozen; have HD:=lh (H.out.keep0 hk2); have HK2:=lh hk2; clear hbe hk2))
  refine bodyPost_ret (results_tmp2 rfl _ _ _) rfl ⟨rfl, HD3.out, ?_⟩
  exact HK3.out
def dec_uvarintF (p g o N c : Nat) (pre l : List UInt8) (x : Nat) (ix : Nat) (v : Value) (_ : World) : Prop :=
 match ix with
 | 0 => v = .pointer (some ⟨p, 0, none⟩)
 | 1 => v = .pointer (some ⟨p, 0, none⟩)
 | 2 => v = .pointer (some ⟨p, 0, none⟩)
 | 3 => v = .slice (some ⟨g, o, none⟩) N c
 | 4 => v = .pointer (some ⟨p, 0, none⟩)
 | 5 => v = .pointer (some ⟨p, 0, none⟩)
 | 6 => v = .pointer (some ⟨p, 1, none⟩)
 | 7 => v = .int .i64 pre.length
 | 8 => v = .slice (some ⟨g, o + pre.length, none⟩) (N - pre.length) (c - pre.length)
 | 9 => v = .tuple #[.int .u64 x, .int .i64 l.length]
 | 10 => v = .tuple #[.int .u64 x, .int .i64 l.length]
 | 11 => v = .int .u64 x
 | 12 => v = .int .i64 l.length
 | 13 => v = .int .u64 x
 | _ => True
theorem dec_uvarintF_stable {p g o N c pre l x} : ∀ ix v w w', dec_uvarintF p g o N c pre l x ix v w → Kept [] w w' → dec_uvarintF p g o N c pre l x ix v w':=by
 intro ix v w w' h k
 unfold dec_uvarintF at h ⊢
 split at h <;> (first | (exact h))
theorem dec_uvarint (p c : Nat) (A : Option Addr) (st : Value) (pre rest : List UInt8) (w : World) (x : Nat) (h0 : x < 18446744073709551616) (h : DecAt p A c st pre (Lib.uvarint x ++ rest) w) : Calls Tryz.prog 166 #[.pointer (some ⟨p, 0, none⟩)] w (DecR p A c st (.int .u64 x) (pre ++ Lib.uvarint x) rest w):=by
 have H:=lh h
 have hpos : 0 < (Lib.uvarint x).length:=Lib.uvarint_pos _
 have hdec:=uvarintDec_uvarint h0 rest
 obtain ⟨l, hl⟩ : ∃ l, Lib.uvarint x = l:=⟨_, rfl⟩
 rw [hl] at hpos hdec h H ⊢
 have HLL:=lh hl
 have hrl : (l ++ rest).length = l.length + rest.length:=List.length_append
 obtain ⟨g, o, rfl, hgp, hbyte⟩:=h.byte (by omega)
 have hN:=h.2.2.2.1
 have hNc:=h.2.2.1
 obtain ⟨N, hNN⟩ : ∃ N, pre.length + (l ++ rest).length = N:=⟨_, rfl⟩
 have HC0 : Hid (w.cell? ⟨p, 0, none⟩ = some (.slice (some ⟨g, o, none⟩) N c)):=by unfold Hid; rw [h.cell0, hNN]
 have HBY:=lh hbyte
 have HNN:=lh hNN
 have HDEC:=lh hdec
 rw [hNN] at hN hNc
 have hNp : pre.length < N:=by omega
 have hNl : pre.length + l.length ≤ N:=by omega
 have hL0 : ¬ ((l.length : Int) = 0):=by omega
 have hL1 : ¬ ((l.length : Int) < 0):=by omega
 clear h hbyte hrl hNN hl hdec
 go_enter Tryz.func166, Tryz.ntmps166
 go_wp2
 refine wp_region_facts' 14 (Kept []) (dec_uvarintF p g o N c pre l x) mixed (by kernel_rfl) (Kept.refl _ _).drew (fun _ _ _ h k => h.trans k (fun x hx => .inl hx)) dec_uvarintF_stable ?_ ?_
 ·refine ⟨?_, ?_, ?_, ?_, ?_, ?_, ?_, ?_, ?_, ?_, ?_, ?_, ?_, ?_, trivial⟩
  all_goals go_light
  all_goals intro a W hR hs hd
  all_goals have p0 : a.tmps[0]? = some (.pointer (some ⟨p, 0, none⟩)):=hs.2.2 0 (by decide)
  all_goals have hRr:=Kept.refl [] W
  all_goals have hc0 : W.cell? ⟨p, 0, none⟩ = _:=hR.cell HC0.out (by simp)
  all_goals have hc1 : W.cell? ⟨p, 1, none⟩ = _:=hR.cell H.out.cell1 (by simp)
  all_goals have hsl:=dec_from W g o pre.length N c (by omega) hNc
  all_goals have hget:=Tryz.binary_Uvarint g (o + pre.length) (N - pre.length) (c - pre.length) (l ++ rest) W (by have:=HNN.out; omega) (fun j hj => hR.cell (HBY.out j _ (List.getElem?_eq_getElem hj)) (by simp))
  all_goals rw [HDEC.out] at hget
  ·refine ov W (.pointer (some ⟨p, 0, none⟩)) ?_ (.mk hRr rfl rfl)
   simp [go_sem, p0]
  ·have q0 : _ = _:=hd.1 rfl
   refine ov W (.pointer (some ⟨p, 0, none⟩)) ?_ (.mk hRr rfl rfl)
   simp [go_sem, q0]
  ·have q1 : _ = _:=hd.1 rfl
   refine ov W (.pointer (some ⟨p, 0, none⟩)) ?_ (.mk hRr rfl rfl)
   simp [go_sem, q1]
  ·have q2 : _ = _:=hd.1 rfl
   refine ov W (.slice (some ⟨g, o, none⟩) N c) ?_ (.mk hRr rfl rfl)
   simp [go_sem, q2, hc0]
  ·refine ov W (.pointer (some ⟨p, 0, none⟩)) ?_ (.mk hRr rfl rfl)
   simp [go_sem, p0]
  ·have q4 : _ = _:=hd.1 rfl
   refine ov W (.pointer (some ⟨p, 0, none⟩)) ?_ (.mk hRr rfl rfl)
   simp [go_sem, q4]
  ·have q5 : _ = _:=hd.1 rfl
   refine ov W (.pointer (some ⟨p, 1, none⟩)) ?_ (.mk hRr rfl rfl)
   simp [go_sem, q5]
  ·have q6 : _ = _:=hd.1 rfl
   refine ov W (.int .i64 pre.length) ?_ (.mk hRr rfl rfl)
   simp [go_sem, q6, hc1]
  ·have q3 : _ = _:=hd.1 rfl
   have q7 : _ = _:=hd.2.1 rfl
   refine ov W (.slice (some ⟨g, o + pre.length, none⟩) (N - pre.length) (c - pre.length)) ?_ (.mk hRr rfl rfl)
   simp [go_sem, q3, q7, hsl]
  ·have q8 : _ = _:=hd.1 rfl
   refine ow_call (w':=W) (f:=178) (args:=#[.slice (some ⟨g, o + pre.length, none⟩) (N - pre.length) (c - pre.length)]) (by simp [go_sem, q8]) hget ?_
   rintro e w' ⟨rfl, rfl⟩
   exact ⟨_, rfl, .mk hRr rfl rfl⟩
  ·have q9 : _ = _:=hd.1 rfl
   refine ov W (.tuple #[.int .u64 x, .int .i64 l.length]) ?_ (.mk hRr rfl rfl)
   simp [go_sem, q9]
  ·have q10 : _ = _:=hd.1 rfl
   refine ov W (.int .u64 x) ?_ (.mk hRr rfl rfl)
   simp [go_sem, q10]
  ·have q10 : _ = _:=hd.1 rfl
   refine ov W (.int .i64 l.length) ?_ (.mk hRr rfl rfl)
   simp [go_sem, q10]
  ·have q11 : _ = _:=hd.1 rfl
   refine ov W (.int .u64 x) ?_ (.mk hRr rfl rfl)
   simp [go_sem, q11]
 ·intro f W hR hf
  obtain ⟨f0, f1, f2, f3, f4, f5, f6, f7, f8, f9, f10, f11, f12, f13, -⟩:=hf
  change f 7 = _ at f0
  change f 8 = _ at f1
  change f 9 = _ at f2
  change f 10 = _ at f3
  change f 11 = _ at f4
  change f 12 = _ at f5
  change f 13 = _ at f6
  change f 14 = _ at f7
  change f 15 = _ at f8
  change f 16 = _ at f9
  change f 6 = _ at f10
  change f 17 = _ at f11
  change f 18 = _ at f12
  change f 4 = _ at f13
  simp only [headDsts, List.take_succ_cons, List.take_zero, List.filterMap_cons, List.filterMap_nil, setAll, f0, f1, f2, f3, f4, f5, f6, f7, f8, f9, f10, f11, f12, f13, List.setIfInBounds_toArray, List.set_cons_succ, List.set_cons_zero, List.drop_succ_cons, List.drop_zero]
  clear f0 f1 f2 f3 f4 f5 f6 f7 f8 f9 f10 f11 f12 f13 f
  have hc1 : W.cell? ⟨p, 1, none⟩ = _:=hR.cell H.out.cell1 (by simp)
  have hf1 : W.frozen? ⟨p, 1, none⟩ = false:=(H.out.keep0 hR).frozen
  have HD:=lh (H.out.keep0 hR)
  have HKK:=lh hR
  clear hR
  go_wp2
  refine bodyPost_ret (results_tmp2 rfl _ _ _) rfl ⟨rfl, HD.out.move (by go_num), ?_⟩
  exact (HKK.out.mono (by simp)).trans (kept_set _ _ _ _) (fun x hx => .inl hx)
def dec_varintF (p g o N c : Nat) (pre l : List UInt8) (x : Int) (ix : Nat) (v : Value) (_ : World) : Prop :=
 match ix with
 | 0 => v = .pointer (some ⟨p, 0, none⟩)
 | 1 => v = .pointer (some ⟨p, 0, none⟩)
 | 2 => v = .pointer (some ⟨p, 0, none⟩)
 | 3 => v = .slice (some ⟨g, o, none⟩) N c
 | 4 => v = .pointer (some ⟨p, 0, none⟩)
 | 5 => v = .pointer (some ⟨p, 0, none⟩)
 | 6 => v = .pointer (some ⟨p, 1, none⟩)
 | 7 => v = .int .i64 pre.length
 | 8 => v = .slice (some ⟨g, o + pre.length, none⟩) (N - pre.length) (c - pre.length)
 | 9 => v = .tuple #[.int .i64 x, .int .i64 l.length]
 | 10 => v = .tuple #[.int .i64 x, .int .i64 l.length]
 | 11 => v = .int .i64 x
 | 12 => v = .int .i64 l.length
 | 13 => v = .int .i64 x
 | _ => True
theorem dec_varintF_stable {p g o N c pre l x} : ∀ ix v w w', dec_varintF p g o N c pre l x ix v w → Kept [] w w' → dec_varintF p g o N c pre l x ix v w':=by
 intro ix v w w' h k
 unfold dec_varintF at h ⊢
 split at h <;> (first | (exact h))
theorem dec_varint (p c : Nat) (A : Option Addr) (st : Value) (pre rest : List UInt8) (w : World) (x : Int) (h0 : -9223372036854775808 ≤ x) (h1 : x ≤ 9223372036854775807) (h : DecAt p A c st pre (Lib.uvarint (Lib.zigzag x) ++ rest) w) : Calls Tryz.prog 167 #[.pointer (some ⟨p, 0, none⟩)] w (DecR p A c st (.int .i64 x) (pre ++ Lib.uvarint (Lib.zigzag x)) rest w):=by
 have H:=lh h
 have hpos : 0 < (Lib.uvarint (Lib.zigzag x)).length:=Lib.uvarint_pos _
 have hdec:=varintDec_varint h0 h1 rest
 obtain ⟨l, hl⟩ : ∃ l, Lib.uvarint (Lib.zigzag x) = l:=⟨_, rfl⟩
 rw [hl] at hpos hdec h H ⊢
 have HLL:=lh hl
 have hrl : (l ++ rest).length = l.length + rest.length:=List.length_append
 obtain ⟨g, o, rfl, hgp, hbyte⟩:=h.byte (by omega)
 have hN:=h.2.2.2.1
 have hNc:=h.2.2.1
 obtain ⟨N, hNN⟩ : ∃ N, pre.length + (l ++ rest).length = N:=⟨_, rfl⟩
 have HC0 : Hid (w.cell? ⟨p, 0, none⟩ = some (.slice (some ⟨g, o, none⟩) N c)):=by unfold Hid; rw [h.cell0, hNN]
 have HBY:=lh hbyte
 have HNN:=lh hNN
 have HDEC:=lh hdec
 rw [hNN] at hN hNc
 have hNp : pre.length < N:=by omega
 have hNl : pre.length + l.length ≤ N:=by omega
 have hL0 : ¬ ((l.length : Int) = 0):=by omega
 have hL1 : ¬ ((l.length : Int) < 0):=by omega
 clear h hbyte hrl hNN hl hdec
 go_enter Tryz.func167, Tryz.ntmps167
 go_wp2
 refine wp_region_facts' 14 (Kept []) (dec_varintF p g o N c pre l x) mixed (by kernel_rfl) (Kept.refl _ _).drew (fun _ _ _ h k => h.trans k (fun x hx => .inl hx)) dec_varintF_stable ?_ ?_
 ·refine ⟨?_, ?_, ?_, ?_, ?_, ?_, ?_, ?_, ?_, ?_, ?_, ?_, ?_, ?_, trivial⟩
  all_goals go_light
  all_goals intro a W hR hs hd
  all_goals have p0 : a.tmps[0]? = some (.pointer (some ⟨p, 0, none⟩)):=hs.2.2 0 (by decide)
  all_goals have hRr:=Kept.refl [] W
  all_goals have hc0 : W.cell? ⟨p, 0, none⟩ = _:=hR.cell HC0.out (by simp)
  all_goals have hc1 : W.cell? ⟨p, 1, none⟩ = _:=hR.cell H.out.cell1 (by simp)
  all_goals have hsl:=dec_from W g o pre.length N c (by omega) hNc
  all_goals have hget:=Tryz.binary_Varint g (o + pre.length) (N - pre.length) (c - pre.length) (l ++ rest) W (by have:=HNN.out; omega) (fun j hj => hR.cell (HBY.out j _ (List.getElem?_eq_getElem hj)) (by simp))
  all_goals rw [HDEC.out] at hget
  ·refine ov W (.pointer (some ⟨p, 0, none⟩)) ?_ (.mk hRr rfl rfl)
   simp [go_sem, p0]
  ·have q0 : _ = _:=hd.1 rfl
   refine ov W (.pointer (some ⟨p, 0, none⟩)) ?_ (.mk hRr rfl rfl)
   simp [go_sem, q0]
  ·have q1 : _ = _:=hd.1 rfl
   refine ov W (.pointer (some ⟨p, 0, none⟩)) ?_ (.mk hRr rfl rfl)
   simp [go_sem, q1]
  ·have q2 : _ = _:=hd.1 rfl
   refine ov W (.slice (some ⟨g, o, none⟩) N c) ?_ (.mk hRr rfl rfl)
   simp [go_sem, q2, hc0]
  ·refine ov W (.pointer (some ⟨p, 0, none⟩)) ?_ (.mk hRr rfl rfl)
   simp [go_sem, p0]
  ·have q4 : _ = _:=hd.1 rfl
   refine ov W (.pointer (some ⟨p, 0, none⟩)) ?_ (.mk hRr rfl rfl)
   simp [go_sem, q4]
  ·have q5 : _ = _:=hd.1 rfl
   refine ov W (.pointer (some ⟨p, 1, none⟩)) ?_ (.mk hRr rfl rfl)
   simp [go_sem, q5]
  ·have q6 : _ = _:=hd.1 rfl
   refine ov W (.int .i64 pre.length) ?_ (.mk hRr rfl rfl)
   simp [go_sem, q6, hc1]
  ·have q3 : _ = _:=hd.1 rfl
   have q7 : _ = _:=hd.2.1 rfl
   refine ov W (.slice (some ⟨g, o + pre.length, none⟩) (N - pre.length) (c - pre.length)) ?_ (.mk hRr rfl rfl)
   simp [go_sem, q3, q7, hsl]
  ·have q8 : _ = _:=hd.1 rfl
   refine ow_call (w':=W) (f:=179) (args:=#[.slice (some ⟨g, o + pre.length, none⟩) (N - pre.length) (c - pre.length)]) (by simp [go_sem, q8]) hget ?_
   rintro e w' ⟨rfl, rfl⟩
   exact ⟨_, rfl, .mk hRr rfl rfl⟩
  ·have q9 : _ = _:=hd.1 rfl
   refine ov W (.tuple #[.int .i64 x, .int .i64 l.length]) ?_ (.mk hRr rfl rfl)
   simp [go_sem, q9]
  ·have q10 : _ = _:=hd.1 rfl
   refine ov W (.int .i64 x) ?_ (.mk hRr rfl rfl)
   simp [go_sem, q10]
  ·have q10 : _ = _:=hd.1 rfl
   refine ov W (.int .i64 l.length) ?_ (.mk hRr rfl rfl)
   simp [go_sem, q10]
  ·have q11 : _ = _:=hd.1 rfl
   refine ov W (.int .i64 x) ?_ (.mk hRr rfl rfl)
   simp [go_sem, q11]
 ·intro f W hR hf
  obtain ⟨f0, f1, f2, f3, f4, f5, f6, f7, f8, f9, f10, f11, f12, f13, -⟩:=hf
  change f 7 = _ at f0
  change f 8 = _ at f1
  change f 9 = _ at f2
  change f 10 = _ at f3
  change f 11 = _ at f4
  change f 12 = _ at f5
  change f 13 = _ at f6
  change f 14 = _ at f7
  change f 15 = _ at f8
  change f 16 = _ at f9
  change f 6 = _ at f10
  change f 17 = _ at f11
  change f 18 = _ at f12
  change f 4 = _ at f13
  simp only [headDsts, List.take_succ_cons, List.take_zero, List.filterMap_cons, List.filterMap_nil, setAll, f0, f1, f2, f3, f4, f5, f6, f7, f8, f9, f10, f11, f12, f13, List.setIfInBounds_toArray, List.set_cons_succ, List.set_cons_zero, List.drop_succ_cons, List.drop_zero]
  clear f0 f1 f2 f3 f4 f5 f6 f7 f8 f9 f10 f11 f12 f13 f
  have hc1 : W.cell? ⟨p, 1, none⟩ = _:=hR.cell H.out.cell1 (by simp)
  have hf1 : W.frozen? ⟨p, 1, none⟩ = false:=(H.out.keep0 hR).frozen
  have HD:=lh (H.out.keep0 hR)
  have HKK:=lh hR
  clear hR
  go_wp2
  refine bodyPost_ret (results_tmp2 rfl _ _ _) rfl ⟨rfl, HD.out.move (by go_num), ?_⟩
  exact (HKK.out.mono (by simp)).trans (kept_set _ _ _ _) (fun x hx => .inl hx)
def dec_rawF (p N c : Nat) (aa b : Addr) (pre f : List UInt8) (ix : Nat) (v : Value) (_ : World) : Prop :=
 match ix with
 | 0 => v = .pointer (some ⟨p, 0, none⟩)
 | 1 => v = .pointer (some ⟨p, 0, none⟩)
 | 2 => v = .pointer (some ⟨p, 0, none⟩)
 | 3 => v = .slice (some aa) N c
 | 4 => v = .int .i64 pre.length
 | 5 => v = .pointer (some ⟨p, 0, none⟩)
 | 6 => v = .pointer (some ⟨p, 0, none⟩)
 | 7 => v = .pointer (some ⟨p, 1, none⟩)
 | 8 => v = .int .i64 ((pre.length + f.length : Nat) : Int)
 | 9 => v = .slice (some b) f.length (c - pre.length)
 | _ => True
theorem dec_rawF_stable {p N c aa b pre f} : ∀ ix v w w', dec_rawF p N c aa b pre f ix v w → Kept [] w w' → dec_rawF p N c aa b pre f ix v w':=by
 intro ix v w w' h k
 unfold dec_rawF at h ⊢
 split at h <;> (first | (exact h))
/-- Bytes have been read, and no error. -/
def DecB (p : Nat) (A : Option Addr) (c : Nat) (st : Value) (f pre rest : List UInt8) (w : World) (e : Ending) (w' : World) : Prop:=∃ b cp, e = .returned (.tuple #[.slice (some b) f.length cp, .nilIface]) ∧ SlIs w' 1 (some b) f.length (Lib.byteCells f) ∧ ((∀ a, A = some a → b.block = a.block) ∧ b.block ≠ p) ∧ DecAt p A c st pre rest w' ∧ Kept [p] w w'
theorem dec_raw (p c : Nat) (aa : Addr) (st : Value) (pre f rest : List UInt8) (w : World) (h : DecAt p (some aa) c st pre (f ++ rest) w) : Calls Tryz.prog 163 #[.pointer (some ⟨p, 0, none⟩), .int .i64 f.length] w (DecB p (some aa) c st f (pre ++ f) rest w):=by
 have H:=lh h
 have hrl : (f ++ rest).length = f.length + rest.length:=List.length_append
 have hN:=h.2.2.2.1
 have HREM:=lh (fun (W : World) (hk : Kept [] w W) => dec_remaining p c _ st pre _ W (h.keep0 hk))
 obtain ⟨M, hM⟩ : ∃ M, (f ++ rest).length = M:=⟨_, rfl⟩
 obtain ⟨N, hNN⟩ : ∃ N, pre.length + (f ++ rest).length = N:=⟨_, rfl⟩
 obtain ⟨b, hbb, hbs, hsub, -⟩:=dec_sub h N hNN
 have hM1 : ¬ ((M : Int) < (f.length : Int)):=by omega
 have HC0 : Hid (w.cell? ⟨p, 0, none⟩ = some (.slice (some aa) N c)):=by unfold Hid; rw [h.cell0, hNN]
 have HAP : Hid (aa.block ≠ p):=h.2.2.2.2 aa rfl
 have HBS:=lh hbs
 have HNN:=lh hNN
 have HBB:=lh hbb
 rw [hNN] at hN
 rw [hM] at HREM
 have hNf : pre.length + f.length ≤ 1000000:=by omega
 clear h hrl hM hNN hbs hbb
 go_enter Tryz.func163, Tryz.ntmps163
 go_wp2_with ((with_reducible refine (HREM.out _ (Kept.refl _ _)).mono ?_); rintro e w1 ⟨rfl, hk⟩; have hc1 : w1.cell? ⟨p, 1, none⟩ = _:=hk.cell H.out.cell1 (by simp); have hf1 : w1.frozen? ⟨p, 1, none⟩ = false:=(H.out.keep0 hk).frozen; have HD1:=lh (H.out.keep0 hk); have HK1:=lh hk; clear hk)
 have HD : Hid (DecAt p (some aa) c st (pre ++ f) rest (w1.setCell ⟨p, 1, none⟩ (.int .i64 ((pre.length : Int) + (f.length : Int))))):=HD1.out.move (by go_num)
 have HK2 : Hid (Kept [p] w (w1.setCell ⟨p, 1, none⟩ (.int .i64 ((pre.length : Int) + (f.length : Int))))):=(HK1.out.mono (by simp)).trans (kept_set _ _ _ _) (fun x hx => .inl hx)
 generalize w1.setCell ⟨p, 1, none⟩ (.int .i64 ((pre.length : Int) + (f.length : Int))) = w2 at HD HK2 ⊢
 refine wp_region_facts' 10 (Kept []) (dec_rawF p N c aa b pre f) mixed (by kernel_rfl) (Kept.refl _ _).drew (fun _ _ _ h k => h.trans k (fun x hx => .inl hx)) dec_rawF_stable ?_ ?_
 ·refine ⟨?_, ?_, ?_, ?_, ?_, ?_, ?_, ?_, ?_, ?_, trivial⟩
  all_goals go_light
  all_goals intro a W hR hs hd
  all_goals have p0 : a.tmps[0]? = some (.pointer (some ⟨p, 0, none⟩)):=hs.2.2 0 (by decide)
  all_goals have p6 : a.tmps[6]? = some (.int .i64 pre.length):=hs.2.2 6 (by decide)
  all_goals have hRr:=Kept.refl [] W
  all_goals have hc0 : W.cell? ⟨p, 0, none⟩ = some (.slice (some aa) N c):=by (have h1:=hR.cell HD.out.cell0 (by simp); have h2:=HNN.out; rw [h1, List.length_append, Nat.add_assoc]; rw [List.length_append] at h2; rw [h2])
  all_goals have hc1 : W.cell? ⟨p, 1, none⟩ = some (.int .i64 ((pre.length : Int) + (f.length : Int))):=by (have h1:=hR.cell HD.out.cell1 (by simp); rw [h1, List.length_append, Int.natCast_add])
  ·refine ov W (.pointer (some ⟨p, 0, none⟩)) ?_ (.mk hRr rfl rfl)
   simp [go_sem, p0]
  ·have q0 : _ = _:=hd.1 rfl
   refine ov W (.pointer (some ⟨p, 0, none⟩)) ?_ (.mk hRr rfl rfl)
   simp [go_sem, q0]
  ·have q1 : _ = _:=hd.1 rfl
   refine ov W (.pointer (some ⟨p, 0, none⟩)) ?_ (.mk hRr rfl rfl)
   simp [go_sem, q1]
  ·have q2 : _ = _:=hd.1 rfl
   refine ov W (.slice (some aa) N c) ?_ (.mk hRr rfl rfl)
   simp [go_sem, q2, hc0]
  ·refine ov W (.int .i64 pre.length) ?_ (.mk hRr rfl rfl)
   simp [go_sem, p6]
  ·refine ov W (.pointer (some ⟨p, 0, none⟩)) ?_ (.mk hRr rfl rfl)
   simp [go_sem, p0]
  ·have q5 : _ = _:=hd.1 rfl
   refine ov W (.pointer (some ⟨p, 0, none⟩)) ?_ (.mk hRr rfl rfl)
   simp [go_sem, q5]
  ·have q6 : _ = _:=hd.1 rfl
   refine ov W (.pointer (some ⟨p, 1, none⟩)) ?_ (.mk hRr rfl rfl)
   simp [go_sem, q6]
  ·have q7 : _ = _:=hd.1 rfl
   refine ov W (.int .i64 ((pre.length + f.length : Nat) : Int)) ?_ (.mk hRr rfl rfl)
   simp [go_sem, q7, hc1]
  ·have q3 : _ = _:=hd.1 rfl
   have q4 : _ = _:=hd.2.1 rfl
   have q8 : _ = _:=hd.2.2.1 rfl
   refine ov W (.slice (some b) f.length (c - pre.length)) ?_ (.mk hRr rfl rfl)
   simp [go_sem, q3, q4, q8, hsub]
 ·intro f W hR hf
  obtain ⟨f0, f1, f2, f3, f4, f5, f6, f7, f8, f9, -⟩:=hf
  change f 36 = _ at f0
  change f 37 = _ at f1
  change f 38 = _ at f2
  change f 39 = _ at f3
  change f 40 = _ at f4
  change f 41 = _ at f5
  change f 42 = _ at f6
  change f 43 = _ at f7
  change f 44 = _ at f8
  change f 45 = _ at f9
  simp only [headDsts, List.take_succ_cons, List.take_zero, List.filterMap_cons, List.filterMap_nil, setAll, f0, f1, f2, f3, f4, f5, f6, f7, f8, f9, List.setIfInBounds_toArray, List.set_cons_succ, List.set_cons_zero, List.drop_succ_cons, List.drop_zero]
  clear f0 f1 f2 f3 f4 f5 f6 f7 f8 f9 f
  have HR:=lh hR
  clear hR
  go_wp2
  refine bodyPost_ret (results_tmp2 rfl _ _ _) rfl ⟨b, _, rfl, ?_, ?_, HD.out.keep0 HR.out, ?_⟩
  ·exact (HBS.out.kept HK2.out (fun a' ha => by cases ha; rw [HBB.out]; simpa using HAP.out)).kept0 HR.out
  ·exact ⟨fun a0 ha0 => by cases ha0; exact HBB.out, by rw [HBB.out]; exact HAP.out⟩
  ·exact HK2.out.trans (HR.out.mono (by simp)) (fun x hx => .inl hx)
end Go.Proofs.YtmpjikihnmagoaaGreatDoor
