/-
  The writing encoder: numbers, varints, raw bytes, texts. Conditions: room in the row.
-/
import Derived.Test.YtmpjikihnmagoaaGreatDoorZT2
set_option maxRecDepth 100000
set_option maxHeartbeats 1600000
namespace Go.Proofs.YtmpjikihnmagoaaGreatDoor
open Go.RowKit
theorem leBytes_mod : ∀ (n v : Nat), Lib.leBytes n (v % 256 ^ n) = Lib.leBytes n v
 | 0, _ => rfl
 | n + 1, v => by
  have h1 : v % 256 ^ (n + 1) % 256 = v % 256:=Nat.mod_mod_of_dvd _ ⟨256 ^ n, by rw [Nat.pow_succ, Nat.mul_comm]⟩
  have h2 : v % 256 ^ (n + 1) / 256 = v / 256 % 256 ^ n:=by rw [Nat.pow_succ, Nat.mul_comm, Nat.mod_mul_right_div_self]
  rw [Lib.leBytes, Lib.leBytes, h1, h2, leBytes_mod n]
theorem beBytes_mod (n v : Nat) : Lib.beBytes n (v % 256 ^ n) = Lib.beBytes n v:=by unfold Lib.beBytes; rw [leBytes_mod]
theorem wrap_u16 (x : Int) : IntKind.u16.wrap x = ((u64 x % 65536 : Nat) : Int):=by rw [IntKind.wrap_u16]; unfold u64; omega
theorem wrap_u32 (x : Int) : IntKind.u32.wrap x = ((u64 x % 4294967296 : Nat) : Int):=by rw [IntKind.wrap_u32]; unfold u64; omega
theorem wrap_u64 (x : Int) : IntKind.u64.wrap x = ((u64 x : Nat) : Int):=by rw [IntKind.wrap_u64]; unfold u64; omega
theorem wrap_u8 (x : Int) : IntKind.u8.wrap x = (((u64 x % 256).toUInt8.toNat : Nat) : Int):=by rw [Lib.toUInt8_mod, IntKind.wrap_u8]; unfold u64; omega
theorem frozen_kept {p r N o : Nat} {st : Value} {k : List UInt8} {w w' : World} (hk : Kept [r] w w') (h : RealAt p r N st k w) (hpr : p ≠ r) : w'.frozen? ⟨p, o, none⟩ = false:=by
 have:=hk.heap h.1 (by simpa using hpr)
 simp [World.frozen?, this]
theorem big_one (x : Int) : big 1 x = [(u64 x % 256).toUInt8]:=by simp [big, Lib.beBytes, Lib.leBytes]
theorem put2 {r N : Nat} {k : List UInt8} {W : World} (h : Raw r N k W) (x : Int) (hx : k.length + 2 ≤ N) : Calls Tryz.prog 262 #[.agg #[], .slice (some ⟨r, k.length, none⟩) (N - k.length) (N - k.length), .int .u16 ((u64 x % 65536) : Nat)] W fun e w' => e = .returned (.tuple #[]) ∧ Raw r N (k ++ big 2 x) w' ∧ Kept [r] W w':=by
 obtain ⟨xs, hxs⟩ : ∃ xs : Nat → Value, ∀ i, i < 2 → W.cell? ⟨r, k.length + i, none⟩ = some (xs i):=⟨fun i => (W.cell? ⟨r, k.length + i, none⟩).getD .nilIface, fun i hi => by
  obtain ⟨x, hx⟩:=h.isCell (j:=k.length + i) (by omega)
  simp [hx]⟩
 have hfr : ∀ i, W.frozen? ⟨r, k.length + i, none⟩ = false:=fun i => h.frozen
 refine (Tryz.binary_BE_PutUint16 r k.length (N - k.length) (N - k.length) (u64 x % 65536) (by have:=u64_lt x; omega) (xs 0) (xs 1) W (by omega) (hxs 0 (by omega)) (hxs 1 (by omega)) (hfr 0) (hfr 1)).mono ?_
 rintro e w' ⟨rfl, rfl⟩
 have hbb : Lib.beBytes 2 (u64 x % 65536) = big 2 x:=beBytes_mod 2 _
 rw [hbb]
 exact ⟨rfl, Raw.puts _ _ _ (h.keep ((Kept.refl [] W).alloc _) (by simp)) (by rw [big_len]; omega), (((Kept.refl [] W).alloc _).mono (by simp)).trans (kept_setCells _ _ _ _) (fun x hx => .inl hx)⟩
theorem put4 {r N : Nat} {k : List UInt8} {W : World} (h : Raw r N k W) (x : Int) (hx : k.length + 4 ≤ N) : Calls Tryz.prog 263 #[.agg #[], .slice (some ⟨r, k.length, none⟩) (N - k.length) (N - k.length), .int .u32 ((u64 x % 4294967296) : Nat)] W fun e w' => e = .returned (.tuple #[]) ∧ Raw r N (k ++ big 4 x) w' ∧ Kept [r] W w':=by
 obtain ⟨xs, hxs⟩ : ∃ xs : Nat → Value, ∀ i, i < 4 → W.cell? ⟨r, k.length + i, none⟩ = some (xs i):=⟨fun i => (W.cell? ⟨r, k.length + i, none⟩).getD .nilIface, fun i hi => by
  obtain ⟨x, hx⟩:=h.isCell (j:=k.length + i) (by omega)
  simp [hx]⟩
 have hfr : ∀ i, W.frozen? ⟨r, k.length + i, none⟩ = false:=fun i => h.frozen
 refine (Tryz.binary_BE_PutUint32 r k.length (N - k.length) (N - k.length) (u64 x % 4294967296) (by have:=u64_lt x; omega) (xs 0) (xs 1) (xs 2) (xs 3) W (by omega) (hxs 0 (by omega)) (hxs 1 (by omega)) (hxs 2 (by omega)) (hxs 3 (by omega)) (hfr 0) (hfr 1) (hfr 2) (hfr 3)).mono ?_
 rintro e w' ⟨rfl, rfl⟩
 have hbb : Lib.beBytes 4 (u64 x % 4294967296) = big 4 x:=beBytes_mod 4 _
 rw [hbb]
 exact ⟨rfl, Raw.puts _ _ _ (h.keep ((Kept.refl [] W).alloc _) (by simp)) (by rw [big_len]; omega), (((Kept.refl [] W).alloc _).mono (by simp)).trans (kept_setCells _ _ _ _) (fun x hx => .inl hx)⟩
theorem put8 {r N : Nat} {k : List UInt8} {W : World} (h : Raw r N k W) (x : Int) (hx : k.length + 8 ≤ N) : Calls Tryz.prog 261 #[.agg #[], .slice (some ⟨r, k.length, none⟩) (N - k.length) (N - k.length), .int .u64 ((u64 x) : Nat)] W fun e w' => e = .returned (.tuple #[]) ∧ Raw r N (k ++ big 8 x) w' ∧ Kept [r] W w':=by
 obtain ⟨xs, hxs⟩ : ∃ xs : Nat → Value, ∀ i, i < 8 → W.cell? ⟨r, k.length + i, none⟩ = some (xs i):=⟨fun i => (W.cell? ⟨r, k.length + i, none⟩).getD .nilIface, fun i hi => by
  obtain ⟨x, hx⟩:=h.isCell (j:=k.length + i) (by omega)
  simp [hx]⟩
 have hfr : ∀ i, W.frozen? ⟨r, k.length + i, none⟩ = false:=fun i => h.frozen
 refine (Tryz.binary_BE_PutUint64 r k.length (N - k.length) (N - k.length) (u64 x) (by have:=u64_lt x; omega) (xs 0) (xs 1) (xs 2) (xs 3) (xs 4) (xs 5) (xs 6) (xs 7) W (by omega) (hxs 0 (by omega)) (hxs 1 (by omega)) (hxs 2 (by omega)) (hxs 3 (by omega)) (hxs 4 (by omega)) (hxs 5 (by omega)) (hxs 6 (by omega)) (hxs 7 (by omega)) (hfr 0) (hfr 1) (hfr 2) (hfr 3) (hfr 4) (hfr 5) (hfr 6) (hfr 7)).mono ?_
 rintro e w' ⟨rfl, rfl⟩
 have hbb : Lib.beBytes 8 (u64 x) = big 8 x:=rfl
 rw [hbb]
 exact ⟨rfl, Raw.puts _ _ _ (h.keep ((Kept.refl [] W).alloc _) (by simp)) (by rw [big_len]; omega), (((Kept.refl [] W).alloc _).mono (by simp)).trans (kept_setCells _ _ _ _) (fun x hx => .inl hx)⟩
def real_int16F (p r N : Nat) (k : List UInt8) (x : Int) (nv : Nat) (ix : Nat) (v : Value) (_ : World) : Prop :=
 match ix with
 | 0 => v = .agg #[]
 | 1 => v = .pointer (some ⟨p, 0, none⟩)
 | 2 => v = .pointer (some ⟨p, 0, none⟩)
 | 3 => v = .pointer (some ⟨p, 0, none⟩)
 | 4 => v = .slice (some ⟨r, 0, none⟩) N N
 | 5 => v = .pointer (some ⟨p, 0, none⟩)
 | 6 => v = .pointer (some ⟨p, 0, none⟩)
 | 7 => v = .pointer (some ⟨p, 1, none⟩)
 | 8 => v = .int .i64 k.length
 | 9 => v = .slice (some ⟨r, k.length, none⟩) (N - k.length) (N - k.length)
 | 10 => v = .int .i16 x
 | 11 => v = .int .u16 (nv : Nat)
 | _ => True
theorem real_int16F_stable {p r N k x nv} : ∀ ix v w w', real_int16F p r N k x nv ix v w → Kept [] w w' → real_int16F p r N k x nv ix v w':=by
 intro ix v w w' h k
 unfold real_int16F at h ⊢
 split at h <;> (first | (exact h))
theorem real_int16 (p r N : Nat) (st : Value) (k : List UInt8) (w : World) (h : RealAt p r N st k w) (x : Int) (hx : k.length + 2 ≤ N) (hN : N ≤ 1000000000) : Calls Tryz.prog 245 #[.pointer (some ⟨p, 0, none⟩), .int .i16 x] w (RealU p r N st (k ++ big 2 x) w):=by
 have H:=lh h
 have HRAW:=lh h.2.1
 have hpr:=h.2.2
 have hlen : (k ++ big 2 x).length = k.length + 2:=by rw [List.length_append, big_len]
 have HLEN:=lh hlen
 obtain ⟨nv, hnv⟩ : ∃ nv : Nat, (u64 x % 65536) = nv:=⟨_, rfl⟩
 clear h hlen
 go_enter Tryz.func245, Tryz.ntmps245
 go_wp2
 refine wp_region_facts' 12 (Kept []) (real_int16F p r N k x nv) mixed (by kernel_rfl) (Kept.refl _ _).drew (fun _ _ _ h k => h.trans k (fun x hx => .inl hx)) real_int16F_stable ?_ ?_
 ·refine ⟨?_, ?_, ?_, ?_, ?_, ?_, ?_, ?_, ?_, ?_, ?_, ?_, trivial⟩
  all_goals go_light
  all_goals intro a W hR hs hd
  all_goals have p0 : a.tmps[0]? = some (.pointer (some ⟨p, 0, none⟩)):=hs.2.2 0 (by decide)
  all_goals have p1 : a.tmps[1]? = some (.int .i16 x):=hs.2.2 1 (by decide)
  all_goals have hRr:=Kept.refl [] W
  all_goals have hc0 : W.cell? ⟨p, 0, none⟩ = _:=hR.cell H.out.cell0 (by simp)
  all_goals have hc1 : W.cell? ⟨p, 1, none⟩ = _:=hR.cell H.out.cell1 (by simp)
  all_goals have hsl:=raw_from_lt W r k.length N (by omega)
  ·refine ov W (.agg #[]) ?_ (.mk hRr rfl rfl)
   simp [go_sem]
  ·refine ov W (.pointer (some ⟨p, 0, none⟩)) ?_ (.mk hRr rfl rfl)
   simp [go_sem, p0]
  ·have q1 : _ = _:=hd.1 rfl
   refine ov W (.pointer (some ⟨p, 0, none⟩)) ?_ (.mk hRr rfl rfl)
   simp [go_sem, q1]
  ·have q2 : _ = _:=hd.1 rfl
   refine ov W (.pointer (some ⟨p, 0, none⟩)) ?_ (.mk hRr rfl rfl)
   simp [go_sem, q2]
  ·have q3 : _ = _:=hd.1 rfl
   refine ov W (.slice (some ⟨r, 0, none⟩) N N) ?_ (.mk hRr rfl rfl)
   simp [go_sem, q3, hc0]
  ·refine ov W (.pointer (some ⟨p, 0, none⟩)) ?_ (.mk hRr rfl rfl)
   simp [go_sem, p0]
  ·have q5 : _ = _:=hd.1 rfl
   refine ov W (.pointer (some ⟨p, 0, none⟩)) ?_ (.mk hRr rfl rfl)
   simp [go_sem, q5]
  ·have q6 : _ = _:=hd.1 rfl
   refine ov W (.pointer (some ⟨p, 1, none⟩)) ?_ (.mk hRr rfl rfl)
   simp [go_sem, q6]
  ·have q7 : _ = _:=hd.1 rfl
   refine ov W (.int .i64 k.length) ?_ (.mk hRr rfl rfl)
   simp [go_sem, q7, hc1]
  ·have q4 : _ = _:=hd.1 rfl
   have q8 : _ = _:=hd.2.1 rfl
   refine ov W (.slice (some ⟨r, k.length, none⟩) (N - k.length) (N - k.length)) ?_ (.mk hRr rfl rfl)
   simp [go_sem, q4, q8, hsl]
  ·refine ov W (.int .i16 x) ?_ (.mk hRr rfl rfl)
   simp [go_sem, p1]
  ·have q10 : _ = _:=hd.1 rfl
   refine ov W (.int .u16 (nv : Nat)) ?_ (.mk hRr rfl rfl)
   simp [go_sem, q10, wrap_u16, hnv]
 ·intro f W hR hf
  obtain ⟨f0, f1, f2, f3, f4, f5, f6, f7, f8, f9, f10, f11, -⟩:=hf
  change f 4 = _ at f0
  change f 5 = _ at f1
  change f 6 = _ at f2
  change f 7 = _ at f3
  change f 8 = _ at f4
  change f 9 = _ at f5
  change f 10 = _ at f6
  change f 11 = _ at f7
  change f 12 = _ at f8
  change f 13 = _ at f9
  change f 14 = _ at f10
  change f 15 = _ at f11
  simp only [headDsts, List.take_succ_cons, List.take_zero, List.filterMap_cons, List.filterMap_nil, setAll, f0, f1, f2, f3, f4, f5, f6, f7, f8, f9, f10, f11, List.setIfInBounds_toArray, List.set_cons_succ, List.set_cons_zero, List.drop_succ_cons, List.drop_zero]
  clear f0 f1 f2 f3 f4 f5 f6 f7 f8 f9 f10 f11 f
  have hput:=put2 (HRAW.out.keep hR (by simp)) x hx
  rw [hnv] at hput
  have HP:=lh hput
  have HNV:=lh hnv
  clear hput hnv
  have HR:=lh hR
  clear hR
  go_wp2_with ((with_reducible refine HP.out.mono ?_); rintro e W2 ⟨rfl, hraw, hk⟩; have hc1 : W2.cell? ⟨p, 1, none⟩ = _:=(HR.out.mono (by simp)).trans hk (fun x hx => .inl hx) |>.cell H.out.cell1 (by simpa using hpr); have hf1 : W2.frozen? ⟨p, 1, none⟩ = false:=frozen_kept ((HR.out.mono (by simp)).trans hk (fun x hx => .inl hx)) H.out hpr; have HRAW2:=lh hraw; have HK2 : Hid (Kept [r] w W2):=(HR.out.mono (by simp)).trans hk (fun x hx => .inl hx); clear hraw hk)
  refine bodyPost_end (results_none rfl _ _ _) rfl ⟨rfl, H.out.move HK2.out HRAW2.out (by rw [HLEN.out]; go_num), ?_⟩
  exact (HK2.out.mono (by simp)).trans ((kept_set _ _ _ _).mono (by simp)) (fun x hx => .inl hx)
def real_int32F (p r N : Nat) (k : List UInt8) (x : Int) (nv : Nat) (ix : Nat) (v : Value) (_ : World) : Prop :=
 match ix with
 | 0 => v = .agg #[]
 | 1 => v = .pointer (some ⟨p, 0, none⟩)
 | 2 => v = .pointer (some ⟨p, 0, none⟩)
 | 3 => v = .pointer (some ⟨p, 0, none⟩)
 | 4 => v = .slice (some ⟨r, 0, none⟩) N N
 | 5 => v = .pointer (some ⟨p, 0, none⟩)
 | 6 => v = .pointer (some ⟨p, 0, none⟩)
 | 7 => v = .pointer (some ⟨p, 1, none⟩)
 | 8 => v = .int .i64 k.length
 | 9 => v = .slice (some ⟨r, k.length, none⟩) (N - k.length) (N - k.length)
 | 10 => v = .int .i32 x
 | 11 => v = .int .u32 (nv : Nat)
 | _ => True
theorem real_int32F_stable {p r N k x nv} : ∀ ix v w w', real_int32F p r N k x nv ix v w → Kept [] w w' → real_int32F p r N k x nv ix v w':=by
 intro ix v w w' h k
 unfold real_int32F at h ⊢
 split at h <;> (first | (exact h))
theorem real_int32 (p r N : Nat) (st : Value) (k : List UInt8) (w : World) (h : RealAt p r N st k w) (x : Int) (hx : k.length + 4 ≤ N) (hN : N ≤ 1000000000) : Calls Tryz.prog 246 #[.pointer (some ⟨p, 0, none⟩), .int .i32 x] w (RealU p r N st (k ++ big 4 x) w):=by
 have H:=lh h
 have HRAW:=lh h.2.1
 have hpr:=h.2.2
 have hlen : (k ++ big 4 x).length = k.length + 4:=by rw [List.length_append, big_len]
 have HLEN:=lh hlen
 obtain ⟨nv, hnv⟩ : ∃ nv : Nat, (u64 x % 4294967296) = nv:=⟨_, rfl⟩
 clear h hlen
 go_enter Tryz.func246, Tryz.ntmps246
 go_wp2
 refine wp_region_facts' 12 (Kept []) (real_int32F p r N k x nv) mixed (by kernel_rfl) (Kept.refl _ _).drew (fun _ _ _ h k => h.trans k (fun x hx => .inl hx)) real_int32F_stable ?_ ?_
 ·refine ⟨?_, ?_, ?_, ?_, ?_, ?_, ?_, ?_, ?_, ?_, ?_, ?_, trivial⟩
  all_goals go_light
  all_goals intro a W hR hs hd
  all_goals have p0 : a.tmps[0]? = some (.pointer (some ⟨p, 0, none⟩)):=hs.2.2 0 (by decide)
  all_goals have p1 : a.tmps[1]? = some (.int .i32 x):=hs.2.2 1 (by decide)
  all_goals have hRr:=Kept.refl [] W
  all_goals have hc0 : W.cell? ⟨p, 0, none⟩ = _:=hR.cell H.out.cell0 (by simp)
  all_goals have hc1 : W.cell? ⟨p, 1, none⟩ = _:=hR.cell H.out.cell1 (by simp)
  all_goals have hsl:=raw_from_lt W r k.length N (by omega)
  ·refine ov W (.agg #[]) ?_ (.mk hRr rfl rfl)
   simp [go_sem]
  ·refine ov W (.pointer (some ⟨p, 0, none⟩)) ?_ (.mk hRr rfl rfl)
   simp [go_sem, p0]
  ·have q1 : _ = _:=hd.1 rfl
   refine ov W (.pointer (some ⟨p, 0, none⟩)) ?_ (.mk hRr rfl rfl)
   simp [go_sem, q1]
  ·have q2 : _ = _:=hd.1 rfl
   refine ov W (.pointer (some ⟨p, 0, none⟩)) ?_ (.mk hRr rfl rfl)
   simp [go_sem, q2]
  ·have q3 : _ = _:=hd.1 rfl
   refine ov W (.slice (some ⟨r, 0, none⟩) N N) ?_ (.mk hRr rfl rfl)
   simp [go_sem, q3, hc0]
  ·refine ov W (.pointer (some ⟨p, 0, none⟩)) ?_ (.mk hRr rfl rfl)
   simp [go_sem, p0]
  ·have q5 : _ = _:=hd.1 rfl
   refine ov W (.pointer (some ⟨p, 0, none⟩)) ?_ (.mk hRr rfl rfl)
   simp [go_sem, q5]
  ·have q6 : _ = _:=hd.1 rfl
   refine ov W (.pointer (some ⟨p, 1, none⟩)) ?_ (.mk hRr rfl rfl)
   simp [go_sem, q6]
  ·have q7 : _ = _:=hd.1 rfl
   refine ov W (.int .i64 k.length) ?_ (.mk hRr rfl rfl)
   simp [go_sem, q7, hc1]
  ·have q4 : _ = _:=hd.1 rfl
   have q8 : _ = _:=hd.2.1 rfl
   refine ov W (.slice (some ⟨r, k.length, none⟩) (N - k.length) (N - k.length)) ?_ (.mk hRr rfl rfl)
   simp [go_sem, q4, q8, hsl]
  ·refine ov W (.int .i32 x) ?_ (.mk hRr rfl rfl)
   simp [go_sem, p1]
  ·have q10 : _ = _:=hd.1 rfl
   refine ov W (.int .u32 (nv : Nat)) ?_ (.mk hRr rfl rfl)
   simp [go_sem, q10, wrap_u32, hnv]
 ·intro f W hR hf
  obtain ⟨f0, f1, f2, f3, f4, f5, f6, f7, f8, f9, f10, f11, -⟩:=hf
  change f 4 = _ at f0
  change f 5 = _ at f1
  change f 6 = _ at f2
  change f 7 = _ at f3
  change f 8 = _ at f4
  change f 9 = _ at f5
  change f 10 = _ at f6
  change f 11 = _ at f7
  change f 12 = _ at f8
  change f 13 = _ at f9
  change f 14 = _ at f10
  change f 15 = _ at f11
  simp only [headDsts, List.take_succ_cons, List.take_zero, List.filterMap_cons, List.filterMap_nil, setAll, f0, f1, f2, f3, f4, f5, f6, f7, f8, f9, f10, f11, List.setIfInBounds_toArray, List.set_cons_succ, List.set_cons_zero, List.drop_succ_cons, List.drop_zero]
  clear f0 f1 f2 f3 f4 f5 f6 f7 f8 f9 f10 f11 f
  have hput:=put4 (HRAW.out.keep hR (by simp)) x hx
  rw [hnv] at hput
  have HP:=lh hput
  have HNV:=lh hnv
  clear hput hnv
  have HR:=lh hR
  clear hR
  go_wp2_with ((with_reducible refine HP.out.mono ?_); rintro e W2 ⟨rfl, hraw, hk⟩; have hc1 : W2.cell? ⟨p, 1, none⟩ = _:=(HR.out.mono (by simp)).trans hk (fun x hx => .inl hx) |>.cell H.out.cell1 (by simpa using hpr); have hf1 : W2.frozen? ⟨p, 1, none⟩ = false:=frozen_kept ((HR.out.mono (by simp)).trans hk (fun x hx => .inl hx)) H.out hpr; have HRAW2:=lh hraw; have HK2 : Hid (Kept [r] w W2):=(HR.out.mono (by simp)).trans hk (fun x hx => .inl hx); clear hraw hk)
  refine bodyPost_end (results_none rfl _ _ _) rfl ⟨rfl, H.out.move HK2.out HRAW2.out (by rw [HLEN.out]; go_num), ?_⟩
  exact (HK2.out.mono (by simp)).trans ((kept_set _ _ _ _).mono (by simp)) (fun x hx => .inl hx)
def real_int64F (p r N : Nat) (k : List UInt8) (x : Int) (nv : Nat) (ix : Nat) (v : Value) (_ : World) : Prop :=
 match ix with
 | 0 => v = .agg #[]
 | 1 => v = .pointer (some ⟨p, 0, none⟩)
 | 2 => v = .pointer (some ⟨p, 0, none⟩)
 | 3 => v = .pointer (some ⟨p, 0, none⟩)
 | 4 => v = .slice (some ⟨r, 0, none⟩) N N
 | 5 => v = .pointer (some ⟨p, 0, none⟩)
 | 6 => v = .pointer (some ⟨p, 0, none⟩)
 | 7 => v = .pointer (some ⟨p, 1, none⟩)
 | 8 => v = .int .i64 k.length
 | 9 => v = .slice (some ⟨r, k.length, none⟩) (N - k.length) (N - k.length)
 | 10 => v = .int .i64 x
 | 11 => v = .int .u64 (nv : Nat)
 | _ => True
theorem real_int64F_stable {p r N k x nv} : ∀ ix v w w', real_int64F p r N k x nv ix v w → Kept [] w w' → real_int64F p r N k x nv ix v w':=by
 intro ix v w w' h k
 unfold real_int64F at h ⊢
 split at h <;> (first | (exact h))
theorem real_int64 (p r N : Nat) (st : Value) (k : List UInt8) (w : World) (h : RealAt p r N st k w) (x : Int) (hx : k.length + 8 ≤ N) (hN : N ≤ 1000000000) : Calls Tryz.prog 248 #[.pointer (some ⟨p, 0, none⟩), .int .i64 x] w (RealU p r N st (k ++ big 8 x) w):=by
 have H:=lh h
 have HRAW:=lh h.2.1
 have hpr:=h.2.2
 have hlen : (k ++ big 8 x).length = k.length + 8:=by rw [List.length_append, big_len]
 have HLEN:=lh hlen
 obtain ⟨nv, hnv⟩ : ∃ nv : Nat, (u64 x) = nv:=⟨_, rfl⟩
 clear h hlen
 go_enter Tryz.func248, Tryz.ntmps248
 go_wp2
 refine wp_region_facts' 12 (Kept []) (real_int64F p r N k x nv) mixed (by kernel_rfl) (Kept.refl _ _).drew (fun _ _ _ h k => h.trans k (fun x hx => .inl hx)) real_int64F_stable ?_ ?_
 ·refine ⟨?_, ?_, ?_, ?_, ?_, ?_, ?_, ?_, ?_, ?_, ?_, ?_, trivial⟩
  all_goals go_light
  all_goals intro a W hR hs hd
  all_goals have p0 : a.tmps[0]? = some (.pointer (some ⟨p, 0, none⟩)):=hs.2.2 0 (by decide)
  all_goals have p1 : a.tmps[1]? = some (.int .i64 x):=hs.2.2 1 (by decide)
  all_goals have hRr:=Kept.refl [] W
  all_goals have hc0 : W.cell? ⟨p, 0, none⟩ = _:=hR.cell H.out.cell0 (by simp)
  all_goals have hc1 : W.cell? ⟨p, 1, none⟩ = _:=hR.cell H.out.cell1 (by simp)
  all_goals have hsl:=raw_from_lt W r k.length N (by omega)
  ·refine ov W (.agg #[]) ?_ (.mk hRr rfl rfl)
   simp [go_sem]
  ·refine ov W (.pointer (some ⟨p, 0, none⟩)) ?_ (.mk hRr rfl rfl)
   simp [go_sem, p0]
  ·have q1 : _ = _:=hd.1 rfl
   refine ov W (.pointer (some ⟨p, 0, none⟩)) ?_ (.mk hRr rfl rfl)
   simp [go_sem, q1]
  ·have q2 : _ = _:=hd.1 rfl
   refine ov W (.pointer (some ⟨p, 0, none⟩)) ?_ (.mk hRr rfl rfl)
   simp [go_sem, q2]
  ·have q3 : _ = _:=hd.1 rfl
   refine ov W (.slice (some ⟨r, 0, none⟩) N N) ?_ (.mk hRr rfl rfl)
   simp [go_sem, q3, hc0]
  ·refine ov W (.pointer (some ⟨p, 0, none⟩)) ?_ (.mk hRr rfl rfl)
   simp [go_sem, p0]
  ·have q5 : _ = _:=hd.1 rfl
   refine ov W (.pointer (some ⟨p, 0, none⟩)) ?_ (.mk hRr rfl rfl)
   simp [go_sem, q5]
  ·have q6 : _ = _:=hd.1 rfl
   refine ov W (.pointer (some ⟨p, 1, none⟩)) ?_ (.mk hRr rfl rfl)
   simp [go_sem, q6]
  ·have q7 : _ = _:=hd.1 rfl
   refine ov W (.int .i64 k.length) ?_ (.mk hRr rfl rfl)
   simp [go_sem, q7, hc1]
  ·have q4 : _ = _:=hd.1 rfl
   have q8 : _ = _:=hd.2.1 rfl
   refine ov W (.slice (some ⟨r, k.length, none⟩) (N - k.length) (N - k.length)) ?_ (.mk hRr rfl rfl)
   simp [go_sem, q4, q8, hsl]
  ·refine ov W (.int .i64 x) ?_ (.mk hRr rfl rfl)
   simp [go_sem, p1]
  ·have q10 : _ = _:=hd.1 rfl
   refine ov W (.int .u64 (nv : Nat)) ?_ (.mk hRr rfl rfl)
   simp [go_sem, q10, wrap_u64, hnv]
 ·intro f W hR hf
  obtain ⟨f0, f1, f2, f3, f4, f5, f6, f7, f8, f9, f10, f11, -⟩:=hf
  change f 4 = _ at f0
  change f 5 = _ at f1
  change f 6 = _ at f2
  change f 7 = _ at f3
  change f 8 = _ at f4
  change f 9 = _ at f5
  change f 10 = _ at f6
  change f 11 = _ at f7
  change f 12 = _ at f8
  change f 13 = _ at f9
  change f 14 = _ at f10
  change f 15 = _ at f11
  simp only [headDsts, List.take_succ_cons, List.take_zero, List.filterMap_cons, List.filterMap_nil, setAll, f0, f1, f2, f3, f4, f5, f6, f7, f8, f9, f10, f11, List.setIfInBounds_toArray, List.set_cons_succ, List.set_cons_zero, List.drop_succ_cons, List.drop_zero]
  clear f0 f1 f2 f3 f4 f5 f6 f7 f8 f9 f10 f11 f
  have hput:=put8 (HRAW.out.keep hR (by simp)) x hx
  rw [hnv] at hput
  have HP:=lh hput
  have HNV:=lh hnv
  clear hput hnv
  have HR:=lh hR
  clear hR
  go_wp2_with ((with_reducible refine HP.out.mono ?_); rintro e W2 ⟨rfl, hraw, hk⟩; have hc1 : W2.cell? ⟨p, 1, none⟩ = _:=(HR.out.mono (by simp)).trans hk (fun x hx => .inl hx) |>.cell H.out.cell1 (by simpa using hpr); have hf1 : W2.frozen? ⟨p, 1, none⟩ = false:=frozen_kept ((HR.out.mono (by simp)).trans hk (fun x hx => .inl hx)) H.out hpr; have HRAW2:=lh hraw; have HK2 : Hid (Kept [r] w W2):=(HR.out.mono (by simp)).trans hk (fun x hx => .inl hx); clear hraw hk)
  refine bodyPost_end (results_none rfl _ _ _) rfl ⟨rfl, H.out.move HK2.out HRAW2.out (by rw [HLEN.out]; go_num), ?_⟩
  exact (HK2.out.mono (by simp)).trans ((kept_set _ _ _ _).mono (by simp)) (fun x hx => .inl hx)
end Go.Proofs.YtmpjikihnmagoaaGreatDoor
/-
 The writing encoder: bytes, floats, varints, raw bytes, texts. Conditions: room in the row.
-/
namespace Go.Proofs.YtmpjikihnmagoaaGreatDoor
open Go.RowKit
theorem wrap_i16 {x : Int} (h0 : -32768 ≤ x) (h1 : x ≤ 32767) : IntKind.i16.wrap x = x:=by
 unfold IntKind.wrap
 simp [IntKind.bits, IntKind.signed]
 omega
theorem bits88 (b : Nat) (w : World) : (callFunc 88 #[.float .f64 b]).run Tryz.prog w = .ok (.value (.int .u64 (b : Int))) w:=by
 rw [run_callFunc_extern Tryz.func88 (by kernel_rfl) (by kernel_rfl) (by kernel_rfl) (e:=Extern.MathFloatBits.float64bits) (by kernel_rfl)]
 rfl
theorem frombits90 (x : Int) (w : World) : (callFunc 90 #[.int .u64 x]).run Tryz.prog w = .ok (.value (.float .f64 x.toNat)) w:=by
 rw [run_callFunc_extern Tryz.func90 (by kernel_rfl) (by kernel_rfl) (by kernel_rfl) (e:=Extern.MathFloatBits.float64frombits) (by kernel_rfl)]
 rfl
/-- Bytes are copied behind what has been written. -/
theorem copy_raw {r N c : Nat} {k l : List UInt8} {W : World} {A : Option Addr} (h : Raw r N k W) (hl : k.length + l.length ≤ N) (hA : SlIs W 1 A l.length (Lib.byteCells l)) :
  ∃ W2, (Builtin.copy_ #[34, 34] 3 #[.slice (some ⟨r, if N = k.length then 0 else k.length, none⟩) (N - k.length) (N - k.length), .slice A l.length c]).run Tryz.prog W = .ok (.int .i64 l.length) W2 ∧ Raw r N (k ++ l) W2 ∧ Kept [r] W W2:=by
 have hq : (Tryz.prog.info? 5).map (·.size) = some 1:=by kernel_rfl
 by_cases e : l.length = 0
 ·obtain rfl : l = []:=List.eq_nil_of_length_eq_zero e
  refine ⟨W, ?_, by simpa using h, Kept.refl _ _⟩
  exact run_copy_none W 34 34 3 5 _ A _ _ _ _ Tryz.underlying34 hq (by simp)
 ·obtain ⟨b, off, rfl, hcc⟩:=hA.2.2 (by omega)
  refine ⟨W.setCells r k.length (Lib.byteCells l), ?_, Raw.puts l k W h hl, kept_setCells _ _ _ _⟩
  rw [if_neg (by omega)]
  have hlen:=Lib.byteCells_length l
  have h1:=run_copy_cells (P:=Tryz.prog) W 34 34 3 5 r k.length (N - k.length) (N - k.length) ⟨b, off, none⟩ l.length c (Lib.byteCells l) Tryz.underlying34 hq (by rw [hlen]; exact (Nat.min_eq_left (by omega)).symm) (fun j v hj => by rw [show (⟨b, off, none⟩ : Addr).add j = ⟨b, off + j, none⟩ from by unfold Addr.add; split <;> simp_all]; exact hcc j v hj) (fun j hj => by
   obtain ⟨x, hx⟩:=h.isCell (j:=k.length + j) (by omega)
   rw [hx]; rfl) (fun j hj => h.frozen) (fun v hv => by simp only [Lib.byteCells, List.mem_map] at hv; obtain ⟨b, _, rfl⟩:=hv; rfl)
  rw [h1, hlen]
  rfl
/-- A text's bytes are copied behind what has been written. -/
theorem copy_str {r N : Nat} {k : List UInt8} {W : World} (h : Raw r N k W) (s : ByteArray) (hl : k.length + s.size ≤ N) :
  ∃ W2, (Builtin.copy_ #[34, 9] 3 #[.slice (some ⟨r, if N = k.length then 0 else k.length, none⟩) (N - k.length) (N - k.length), .string s]).run Tryz.prog W = .ok (.int .i64 s.size) W2 ∧ Raw r N (k ++ s.data.toList) W2 ∧ Kept [r] W W2:=by
 by_cases e : N = k.length
 ·have hs : s.size = 0:=by omega
  have hd : s.data.toList = []:=List.eq_nil_of_length_eq_zero hs
  refine ⟨W, ?_, by rw [hd, List.append_nil]; exact h, Kept.refl _ _⟩
  rw [if_pos e, run_copy_text W r 0 _ _ s (by omega) (fun j hj => by omega) (fun j hj => by omega), hd]
  rfl
 ·refine ⟨W.setCells r k.length (Lib.byteCells s.data.toList), ?_, Raw.puts _ k W h hl, kept_setCells _ _ _ _⟩
  rw [if_neg e, run_copy_text W r k.length _ _ s (by omega) (fun j hj => by
   obtain ⟨x, hx⟩:=h.isCell (j:=k.length + j) (by omega)
   rw [hx]; rfl) (fun j hj => h.frozen)]
  rfl
def real_int8F (p r N : Nat) (k : List UInt8) (x : Int) (nv : Nat) (ix : Nat) (v : Value) (_ : World) : Prop :=
 match ix with
 | 0 => v = .pointer (some ⟨p, 0, none⟩)
 | 1 => v = .pointer (some ⟨p, 0, none⟩)
 | 2 => v = .pointer (some ⟨p, 0, none⟩)
 | 3 => v = .slice (some ⟨r, 0, none⟩) N N
 | 4 => v = .pointer (some ⟨p, 0, none⟩)
 | 5 => v = .pointer (some ⟨p, 0, none⟩)
 | 6 => v = .pointer (some ⟨p, 1, none⟩)
 | 7 => v = .int .i64 k.length
 | 8 => v = .int .i8 x
 | 9 => v = .int .u8 (nv : Nat)
 | _ => True
theorem real_int8F_stable {p r N k x nv} : ∀ ix v w w', real_int8F p r N k x nv ix v w → Kept [] w w' → real_int8F p r N k x nv ix v w':=by
 intro ix v w w' h k
 unfold real_int8F at h ⊢
 split at h <;> (first | (exact h))
theorem real_int8 (p r N : Nat) (st : Value) (k : List UInt8) (w : World) (h : RealAt p r N st k w) (x : Int) (hx : k.length + 1 ≤ N) (hN : N ≤ 1000000000) : Calls Tryz.prog 250 #[.pointer (some ⟨p, 0, none⟩), .int .i8 x] w (RealU p r N st (k ++ big 1 x) w):=by
 have H:=lh h
 have HRAW:=lh h.2.1
 have hpr:=h.2.2
 have HLEN : Hid ((k ++ big 1 x).length = k.length + 1):=by unfold Hid; rw [List.length_append, big_len]
 obtain ⟨nv, hnv⟩ : ∃ nv : Nat, (u64 x % 256).toUInt8.toNat = nv:=⟨_, rfl⟩
 clear h
 go_enter Tryz.func250, Tryz.ntmps250
 go_wp2
 refine wp_region_facts' 10 (Kept []) (real_int8F p r N k x nv) mixed (by kernel_rfl) (Kept.refl _ _).drew (fun _ _ _ h k => h.trans k (fun x hx => .inl hx)) real_int8F_stable ?_ ?_
 ·refine ⟨?_, ?_, ?_, ?_, ?_, ?_, ?_, ?_, ?_, ?_, trivial⟩
  all_goals go_light
  all_goals intro a W hR hs hd
  all_goals have p0 : a.tmps[0]? = some (.pointer (some ⟨p, 0, none⟩)):=hs.2.2 0 (by decide)
  all_goals have p1 : a.tmps[1]? = some (.int .i8 x):=hs.2.2 1 (by decide)
  all_goals have hRr:=Kept.refl [] W
  all_goals have hc0 : W.cell? ⟨p, 0, none⟩ = _:=hR.cell H.out.cell0 (by simp)
  all_goals have hc1 : W.cell? ⟨p, 1, none⟩ = _:=hR.cell H.out.cell1 (by simp)
  ·refine ov W (.pointer (some ⟨p, 0, none⟩)) ?_ (.mk hRr rfl rfl)
   simp [go_sem, p0]
  ·have q0 : _ = _:=hd.1 rfl
   refine ov W (.pointer (some ⟨p, 0, none⟩)) ?_ (.mk hRr rfl rfl)
   simp [go_sem, q0]
  ·have q1 : _ = _:=hd.1 rfl
   refine ov W (.pointer (some ⟨p, 0, none⟩)) ?_ (.mk hRr rfl rfl)
   simp [go_sem, q1]
  ·have q2 : _ = _:=hd.1 rfl
   refine ov W (.slice (some ⟨r, 0, none⟩) N N) ?_ (.mk hRr rfl rfl)
   simp [go_sem, q2, hc0]
  ·refine ov W (.pointer (some ⟨p, 0, none⟩)) ?_ (.mk hRr rfl rfl)
   simp [go_sem, p0]
  ·have q4 : _ = _:=hd.1 rfl
   refine ov W (.pointer (some ⟨p, 0, none⟩)) ?_ (.mk hRr rfl rfl)
   simp [go_sem, q4]
  ·have q5 : _ = _:=hd.1 rfl
   refine ov W (.pointer (some ⟨p, 1, none⟩)) ?_ (.mk hRr rfl rfl)
   simp [go_sem, q5]
  ·have q6 : _ = _:=hd.1 rfl
   refine ov W (.int .i64 k.length) ?_ (.mk hRr rfl rfl)
   simp [go_sem, q6, hc1]
  ·refine ov W (.int .i8 x) ?_ (.mk hRr rfl rfl)
   simp [go_sem, p1]
  ·have q8 : _ = _:=hd.1 rfl
   refine ov W (.int .u8 (nv : Nat)) ?_ (.mk hRr rfl rfl)
   simp [go_sem, q8, wrap_u8, hnv]
 ·intro f W hR hf
  obtain ⟨f0, f1, f2, f3, f4, f5, f6, f7, f8, f9, -⟩:=hf
  change f 4 = _ at f0
  change f 5 = _ at f1
  change f 6 = _ at f2
  change f 7 = _ at f3
  change f 8 = _ at f4
  change f 9 = _ at f5
  change f 10 = _ at f6
  change f 11 = _ at f7
  change f 12 = _ at f8
  change f 13 = _ at f9
  simp only [headDsts, List.take_succ_cons, List.take_zero, List.filterMap_cons, List.filterMap_nil, setAll, f0, f1, f2, f3, f4, f5, f6, f7, f8, f9, List.setIfInBounds_toArray, List.set_cons_succ, List.set_cons_zero, List.drop_succ_cons, List.drop_zero]
  clear f0 f1 f2 f3 f4 f5 f6 f7 f8 f9 f
  have hlt : (k.length : Int) < (N : Int):=by omega
  obtain ⟨b0, hb0⟩:=(HRAW.out.keep hR (by simp)).isCell (j:=k.length) (by omega)
  have hfr0 : W.frozen? ⟨r, k.length, none⟩ = false:=(HRAW.out.keep hR (by simp)).frozen
  have hput:=(HRAW.out.keep hR (by simp)).put (by omega) (u64 x % 256).toUInt8
  rw [hnv, ← big_one] at hput
  have hk2 : Kept [r] w (W.setCell ⟨r, k.length, none⟩ (.int .u8 (nv : Nat))):=(hR.mono (by simp)).trans (kept_set _ _ _ _) (fun x hx => .inl hx)
  have hc1 : (W.setCell ⟨r, k.length, none⟩ (.int .u8 (nv : Nat))).cell? ⟨p, 1, none⟩ = _:=hk2.cell H.out.cell1 (by simpa using hpr)
  have hf1 : (W.setCell ⟨r, k.length, none⟩ (.int .u8 (nv : Nat))).frozen? ⟨p, 1, none⟩ = false:=frozen_kept hk2 H.out hpr
  have HPUT:=lh hput
  have HK2:=lh hk2
  clear hput hk2 hR hnv
  go_wp2
  refine bodyPost_end (results_none rfl _ _ _) rfl ⟨rfl, H.out.move HK2.out HPUT.out (by rw [HLEN.out]; go_num), ?_⟩
  exact (HK2.out.mono (by simp)).trans ((kept_set _ _ _ _).mono (by simp)) (fun x hx => .inl hx)
def real_floatF (p r N : Nat) (k : List UInt8) (nv : Nat) (ix : Nat) (v : Value) (_ : World) : Prop :=
 match ix with
 | 0 => v = .agg #[]
 | 1 => v = .pointer (some ⟨p, 0, none⟩)
 | 2 => v = .pointer (some ⟨p, 0, none⟩)
 | 3 => v = .pointer (some ⟨p, 0, none⟩)
 | 4 => v = .slice (some ⟨r, 0, none⟩) N N
 | 5 => v = .pointer (some ⟨p, 0, none⟩)
 | 6 => v = .pointer (some ⟨p, 0, none⟩)
 | 7 => v = .pointer (some ⟨p, 1, none⟩)
 | 8 => v = .int .i64 k.length
 | 9 => v = .slice (some ⟨r, k.length, none⟩) (N - k.length) (N - k.length)
 | 10 => v = .float .f64 nv
 | 11 => v = .int .u64 (nv : Nat)
 | _ => True
theorem real_floatF_stable {p r N k nv} : ∀ ix v w w', real_floatF p r N k nv ix v w → Kept [] w w' → real_floatF p r N k nv ix v w':=by
 intro ix v w w' h k
 unfold real_floatF at h ⊢
 split at h <;> (first | (exact h))
theorem real_float (p r N : Nat) (st : Value) (k : List UInt8) (w : World) (h : RealAt p r N st k w) (x : Int) (hx : k.length + 8 ≤ N) (hN : N ≤ 1000000000) : Calls Tryz.prog 244 #[.pointer (some ⟨p, 0, none⟩), .float .f64 (u64 x)] w (RealU p r N st (k ++ big 8 x) w):=by
 have H:=lh h
 have HRAW:=lh h.2.1
 have hpr:=h.2.2
 have HLEN : Hid ((k ++ big 8 x).length = k.length + 8):=by unfold Hid; rw [List.length_append, big_len]
 obtain ⟨nv, hnv⟩ : ∃ nv : Nat, u64 x = nv:=⟨_, rfl⟩
 rw [hnv]
 clear h
 go_enter Tryz.func244, Tryz.ntmps244
 go_wp2
 refine wp_region_facts' 12 (Kept []) (real_floatF p r N k nv) mixed (by kernel_rfl) (Kept.refl _ _).drew (fun _ _ _ h k => h.trans k (fun x hx => .inl hx)) real_floatF_stable ?_ ?_
 ·refine ⟨?_, ?_, ?_, ?_, ?_, ?_, ?_, ?_, ?_, ?_, ?_, ?_, trivial⟩
  all_goals go_light
  all_goals intro a W hR hs hd
  all_goals have p0 : a.tmps[0]? = some (.pointer (some ⟨p, 0, none⟩)):=hs.2.2 0 (by decide)
  all_goals have p1 : a.tmps[1]? = some (.float .f64 nv):=hs.2.2 1 (by decide)
  all_goals have hRr:=Kept.refl [] W
  all_goals have hc0 : W.cell? ⟨p, 0, none⟩ = _:=hR.cell H.out.cell0 (by simp)
  all_goals have hc1 : W.cell? ⟨p, 1, none⟩ = _:=hR.cell H.out.cell1 (by simp)
  all_goals have hsl:=raw_from_lt W r k.length N (by omega)
  ·refine ov W (.agg #[]) ?_ (.mk hRr rfl rfl)
   simp [go_sem]
  ·refine ov W (.pointer (some ⟨p, 0, none⟩)) ?_ (.mk hRr rfl rfl)
   simp [go_sem, p0]
  ·have q1 : _ = _:=hd.1 rfl
   refine ov W (.pointer (some ⟨p, 0, none⟩)) ?_ (.mk hRr rfl rfl)
   simp [go_sem, q1]
  ·have q2 : _ = _:=hd.1 rfl
   refine ov W (.pointer (some ⟨p, 0, none⟩)) ?_ (.mk hRr rfl rfl)
   simp [go_sem, q2]
  ·have q3 : _ = _:=hd.1 rfl
   refine ov W (.slice (some ⟨r, 0, none⟩) N N) ?_ (.mk hRr rfl rfl)
   simp [go_sem, q3, hc0]
  ·refine ov W (.pointer (some ⟨p, 0, none⟩)) ?_ (.mk hRr rfl rfl)
   simp [go_sem, p0]
  ·have q5 : _ = _:=hd.1 rfl
   refine ov W (.pointer (some ⟨p, 0, none⟩)) ?_ (.mk hRr rfl rfl)
   simp [go_sem, q5]
  ·have q6 : _ = _:=hd.1 rfl
   refine ov W (.pointer (some ⟨p, 1, none⟩)) ?_ (.mk hRr rfl rfl)
   simp [go_sem, q6]
  ·have q7 : _ = _:=hd.1 rfl
   refine ov W (.int .i64 k.length) ?_ (.mk hRr rfl rfl)
   simp [go_sem, q7, hc1]
  ·have q4 : _ = _:=hd.1 rfl
   have q8 : _ = _:=hd.2.1 rfl
   refine ov W (.slice (some ⟨r, k.length, none⟩) (N - k.length) (N - k.length)) ?_ (.mk hRr rfl rfl)
   simp [go_sem, q4, q8, hsl]
  ·refine ov W (.float .f64 nv) ?_ (.mk hRr rfl rfl)
   simp [go_sem, p1]
  ·have q10 : _ = _:=hd.1 rfl
   refine ov W (.int .u64 (nv : Nat)) ?_ (.mk hRr rfl rfl)
   simp [go_sem, q10, bits88]
 ·intro f W hR hf
  obtain ⟨f0, f1, f2, f3, f4, f5, f6, f7, f8, f9, f10, f11, -⟩:=hf
  change f 4 = _ at f0
  change f 5 = _ at f1
  change f 6 = _ at f2
  change f 7 = _ at f3
  change f 8 = _ at f4
  change f 9 = _ at f5
  change f 10 = _ at f6
  change f 11 = _ at f7
  change f 12 = _ at f8
  change f 13 = _ at f9
  change f 14 = _ at f10
  change f 15 = _ at f11
  simp only [headDsts, List.take_succ_cons, List.take_zero, List.filterMap_cons, List.filterMap_nil, setAll, f0, f1, f2, f3, f4, f5, f6, f7, f8, f9, f10, f11, List.setIfInBounds_toArray, List.set_cons_succ, List.set_cons_zero, List.drop_succ_cons, List.drop_zero]
  clear f0 f1 f2 f3 f4 f5 f6 f7 f8 f9 f10 f11 f
  have hput:=put8 (HRAW.out.keep hR (by simp)) x hx
  rw [hnv] at hput
  have HP:=lh hput
  have HNV:=lh hnv
  clear hput hnv
  have HR:=lh hR
  clear hR
  go_wp2_with ((with_reducible refine HP.out.mono ?_); rintro e W2 ⟨rfl, hraw, hk⟩; have hc1 : W2.cell? ⟨p, 1, none⟩ = _:=(HR.out.mono (by simp)).trans hk (fun x hx => .inl hx) |>.cell H.out.cell1 (by simpa using hpr); have hf1 : W2.frozen? ⟨p, 1, none⟩ = false:=frozen_kept ((HR.out.mono (by simp)).trans hk (fun x hx => .inl hx)) H.out hpr; have HRAW2:=lh hraw; have HK2 : Hid (Kept [r] w W2):=(HR.out.mono (by simp)).trans hk (fun x hx => .inl hx); clear hraw hk)
  refine bodyPost_end (results_none rfl _ _ _) rfl ⟨rfl, H.out.move HK2.out HRAW2.out (by rw [HLEN.out]; go_num), ?_⟩
  exact (HK2.out.mono (by simp)).trans ((kept_set _ _ _ _).mono (by simp)) (fun x hx => .inl hx)
def real_uvarintF (p r N : Nat) (k l : List UInt8) (x : Nat) (ix : Nat) (v : Value) (W : World) : Prop :=
 match ix with
 | 0 => v = .pointer (some ⟨p, 0, none⟩)
 | 1 => v = .pointer (some ⟨p, 0, none⟩)
 | 2 => v = .pointer (some ⟨p, 1, none⟩)
 | 3 => v = .int .i64 k.length
 | 4 => v = .pointer (some ⟨p, 0, none⟩)
 | 5 => v = .pointer (some ⟨p, 0, none⟩)
 | 6 => v = .pointer (some ⟨p, 0, none⟩)
 | 7 => v = .slice (some ⟨r, 0, none⟩) N N
 | 8 => v = .pointer (some ⟨p, 0, none⟩)
 | 9 => v = .pointer (some ⟨p, 0, none⟩)
 | 10 => v = .pointer (some ⟨p, 1, none⟩)
 | 11 => v = .int .i64 k.length
 | 12 => v = .slice (some ⟨r, k.length, none⟩) (N - k.length) (N - k.length)
 | 13 => v = .int .u64 x
 | 14 => Raw r N (k ++ l) W ∧ v = .int .i64 l.length
 | 15 => v = .int .i64 ((k.length + l.length : Nat) : Int)
 | _ => True
theorem real_uvarintF_stable {p r N k l x} : ∀ ix v w w', real_uvarintF p r N k l x ix v w → RW r N k l w w' → real_uvarintF p r N k l x ix v w':=by
 intro ix v w w' h k
 unfold real_uvarintF at h ⊢
 split at h <;> (first | (exact h) | (exact ⟨k.2.2 h.1, h.2⟩))
theorem real_uvarint (p r N : Nat) (st : Value) (k : List UInt8) (w : World) (h : RealAt p r N st k w) (x : Nat) (h0 : x < 18446744073709551616) (hN : N ≤ 1000000000) (hx : k.length + (Lib.uvarint x).length ≤ N) : Calls Tryz.prog 257 #[.pointer (some ⟨p, 0, none⟩), .int .u64 x] w (RealU p r N st (k ++ Lib.uvarint x) w):=by
 have H:=lh h
 have HRAW:=lh h.2.1
 have hpr:=h.2.2
 have hpos : 0 < (Lib.uvarint x).length:=Lib.uvarint_pos _
 obtain ⟨l, hL⟩ : ∃ l, Lib.uvarint x = l:=⟨_, rfl⟩
 rw [hL] at hx hpos ⊢
 have HLEN : Hid ((k ++ l).length = k.length + l.length):=by unfold Hid; rw [List.length_append]
 clear h
 go_enter Tryz.func257, Tryz.ntmps257
 go_wp2
 refine wp_region_facts' 16 (RW r N k l) (real_uvarintF p r N k l x) mixed (by kernel_rfl) (RW.drew _ _ _ _ _) (fun _ _ _ h k => h.trans k) real_uvarintF_stable ?_ ?_
 ·refine ⟨?_, ?_, ?_, ?_, ?_, ?_, ?_, ?_, ?_, ?_, ?_, ?_, ?_, ?_, ?_, ?_, trivial⟩
  all_goals go_light
  all_goals intro a W hR hs hd
  all_goals have p0 : a.tmps[0]? = some (.pointer (some ⟨p, 0, none⟩)):=hs.2.2 0 (by decide)
  all_goals have p1 : a.tmps[1]? = some (.int .u64 x):=hs.2.2 1 (by decide)
  all_goals have hRr:=RW.refl r N k l W
  all_goals have hc0 : W.cell? ⟨p, 0, none⟩ = _:=hR.1.cell H.out.cell0 (by simpa using hpr)
  all_goals have hc1 : W.cell? ⟨p, 1, none⟩ = _:=hR.1.cell H.out.cell1 (by simpa using hpr)
  all_goals have hsl:=raw_from_lt W r k.length N (by omega)
  ·refine ov W (.pointer (some ⟨p, 0, none⟩)) ?_ (.mk hRr rfl rfl)
   simp [go_sem, p0]
  ·have q0 : _ = _:=hd.1 rfl
   refine ov W (.pointer (some ⟨p, 0, none⟩)) ?_ (.mk hRr rfl rfl)
   simp [go_sem, q0]
  ·have q1 : _ = _:=hd.1 rfl
   refine ov W (.pointer (some ⟨p, 1, none⟩)) ?_ (.mk hRr rfl rfl)
   simp [go_sem, q1]
  ·have q2 : _ = _:=hd.1 rfl
   refine ov W (.int .i64 k.length) ?_ (.mk hRr rfl rfl)
   simp [go_sem, q2, hc1]
  ·refine ov W (.pointer (some ⟨p, 0, none⟩)) ?_ (.mk hRr rfl rfl)
   simp [go_sem, p0]
  ·have q4 : _ = _:=hd.1 rfl
   refine ov W (.pointer (some ⟨p, 0, none⟩)) ?_ (.mk hRr rfl rfl)
   simp [go_sem, q4]
  ·have q5 : _ = _:=hd.1 rfl
   refine ov W (.pointer (some ⟨p, 0, none⟩)) ?_ (.mk hRr rfl rfl)
   simp [go_sem, q5]
  ·have q6 : _ = _:=hd.1 rfl
   refine ov W (.slice (some ⟨r, 0, none⟩) N N) ?_ (.mk hRr rfl rfl)
   simp [go_sem, q6, hc0]
  ·refine ov W (.pointer (some ⟨p, 0, none⟩)) ?_ (.mk hRr rfl rfl)
   simp [go_sem, p0]
  ·have q8 : _ = _:=hd.1 rfl
   refine ov W (.pointer (some ⟨p, 0, none⟩)) ?_ (.mk hRr rfl rfl)
   simp [go_sem, q8]
  ·have q9 : _ = _:=hd.1 rfl
   refine ov W (.pointer (some ⟨p, 1, none⟩)) ?_ (.mk hRr rfl rfl)
   simp [go_sem, q9]
  ·have q10 : _ = _:=hd.1 rfl
   refine ov W (.int .i64 k.length) ?_ (.mk hRr rfl rfl)
   simp [go_sem, q10, hc1]
  ·have q7 : _ = _:=hd.1 rfl
   have q11 : _ = _:=hd.2.1 rfl
   refine ov W (.slice (some ⟨r, k.length, none⟩) (N - k.length) (N - k.length)) ?_ (.mk hRr rfl rfl)
   simp [go_sem, q7, q11, hsl]
  ·refine ov W (.int .u64 x) ?_ (.mk hRr rfl rfl)
   simp [go_sem, p1]
  ·have q12 : _ = _:=hd.1 rfl
   have q13 : _ = _:=hd.2.1 rfl
   refine ow_call (w':=W) (f:=219) (args:=#[.slice (some ⟨r, k.length, none⟩) (N - k.length) (N - k.length), .int .u64 x]) (by simp [go_sem, q12, q13]) (Tryz.binary_PutUvarint r k.length (N - k.length) (N - k.length) x h0 W (by rw [hL]; omega) (fun j hj => ⟨by
    obtain ⟨x, hx⟩:=(hR.2.1 HRAW.out).isCell (j:=k.length + j) (by rw [hL] at hj; omega)
    rw [hx]; rfl, (hR.2.1 HRAW.out).frozen⟩)) ?_
   rintro e w' ⟨rfl, rfl⟩
   rw [hL]
   exact ⟨_, rfl, .mk (RW.puts (r:=r) (N:=N) (k:=k) (l:=l) (Kept.refl [] W) (by omega)) ⟨Raw.puts _ _ _ (hR.2.1 HRAW.out) (by omega), rfl⟩ rfl⟩
  ·have q3 : _ = _:=hd.1 rfl
   have q14:=hd.2.1 rfl
   obtain ⟨-, q14⟩:=q14
   refine ov W (.int .i64 ((k.length + l.length : Nat) : Int)) ?_ (.mk hRr rfl rfl)
   have hw : IntKind.i64.wrap ((k.length : Int) + (l.length : Int)) = (k.length : Int) + (l.length : Int):=by rw [IntWalk.i64_left, IntWalk.wrap64_in _ (by omega)]
   simp [go_sem, q3, q14, hw]
 ·intro f W hR hf
  obtain ⟨f0, f1, f2, f3, f4, f5, f6, f7, f8, f9, f10, f11, f12, f13, f14, f15, -⟩:=hf
  change f 4 = _ at f0
  change f 5 = _ at f1
  change f 6 = _ at f2
  change f 7 = _ at f3
  change f 8 = _ at f4
  change f 9 = _ at f5
  change f 10 = _ at f6
  change f 11 = _ at f7
  change f 12 = _ at f8
  change f 13 = _ at f9
  change f 14 = _ at f10
  change f 15 = _ at f11
  change f 16 = _ at f12
  change f 17 = _ at f13
  change Raw r N (k ++ l) W ∧ (f 18) = .int .i64 l.length at f14
  obtain ⟨x14, g14⟩ : ∃ x, f 18 = x:=⟨_, rfl⟩
  rw [g14] at f14
  change f 19 = _ at f15
  simp only [headDsts, List.take_succ_cons, List.take_zero, List.filterMap_cons, List.filterMap_nil, setAll, f0, f1, f2, f3, f4, f5, f6, f7, f8, f9, f10, f11, f12, f13, g14, f15, List.setIfInBounds_toArray, List.set_cons_succ, List.set_cons_zero, List.drop_succ_cons, List.drop_zero]
  clear f0 f1 f2 f3 f4 f5 f6 f7 f8 f9 f10 f11 f12 f13 g14 f15 f
  have hc1 : W.cell? ⟨p, 1, none⟩ = _:=hR.1.cell H.out.cell1 (by simpa using hpr)
  have hf1 : W.frozen? ⟨p, 1, none⟩ = false:=frozen_kept hR.1 H.out hpr
  have HRAW2:=lh f14.1
  have HK2:=lh hR.1
  have HLL:=lh hL
  clear f14 hR hL
  go_wp2
  refine bodyPost_end (results_none rfl _ _ _) rfl ⟨rfl, H.out.move HK2.out HRAW2.out (by rw [HLEN.out]; go_num), ?_⟩
  exact (HK2.out.mono (by simp)).trans ((kept_set _ _ _ _).mono (by simp)) (fun x hx => .inl hx)
def real_varintF (p r N : Nat) (k l : List UInt8) (x : Int) (ix : Nat) (v : Value) (W : World) : Prop :=
 match ix with
 | 0 => v = .pointer (some ⟨p, 0, none⟩)
 | 1 => v = .pointer (some ⟨p, 0, none⟩)
 | 2 => v = .pointer (some ⟨p, 1, none⟩)
 | 3 => v = .int .i64 k.length
 | 4 => v = .pointer (some ⟨p, 0, none⟩)
 | 5 => v = .pointer (some ⟨p, 0, none⟩)
 | 6 => v = .pointer (some ⟨p, 0, none⟩)
 | 7 => v = .slice (some ⟨r, 0, none⟩) N N
 | 8 => v = .pointer (some ⟨p, 0, none⟩)
 | 9 => v = .pointer (some ⟨p, 0, none⟩)
 | 10 => v = .pointer (some ⟨p, 1, none⟩)
 | 11 => v = .int .i64 k.length
 | 12 => v = .slice (some ⟨r, k.length, none⟩) (N - k.length) (N - k.length)
 | 13 => v = .int .i64 x
 | 14 => Raw r N (k ++ l) W ∧ v = .int .i64 l.length
 | 15 => v = .int .i64 ((k.length + l.length : Nat) : Int)
 | _ => True
theorem real_varintF_stable {p r N k l x} : ∀ ix v w w', real_varintF p r N k l x ix v w → RW r N k l w w' → real_varintF p r N k l x ix v w':=by
 intro ix v w w' h k
 unfold real_varintF at h ⊢
 split at h <;> (first | (exact h) | (exact ⟨k.2.2 h.1, h.2⟩))
theorem real_varint (p r N : Nat) (st : Value) (k : List UInt8) (w : World) (h : RealAt p r N st k w) (x : Int) (h0 : -9223372036854775808 ≤ x) (h1 : x ≤ 9223372036854775807) (hN : N ≤ 1000000000) (hx : k.length + (Lib.uvarint (Lib.zigzag x)).length ≤ N) : Calls Tryz.prog 259 #[.pointer (some ⟨p, 0, none⟩), .int .i64 x] w (RealU p r N st (k ++ Lib.uvarint (Lib.zigzag x)) w):=by
 have H:=lh h
 have HRAW:=lh h.2.1
 have hpr:=h.2.2
 have hpos : 0 < (Lib.uvarint (Lib.zigzag x)).length:=Lib.uvarint_pos _
 obtain ⟨l, hL⟩ : ∃ l, Lib.uvarint (Lib.zigzag x) = l:=⟨_, rfl⟩
 rw [hL] at hx hpos ⊢
 have HLEN : Hid ((k ++ l).length = k.length + l.length):=by unfold Hid; rw [List.length_append]
 clear h
 go_enter Tryz.func259, Tryz.ntmps259
 go_wp2
 refine wp_region_facts' 16 (RW r N k l) (real_varintF p r N k l x) mixed (by kernel_rfl) (RW.drew _ _ _ _ _) (fun _ _ _ h k => h.trans k) real_varintF_stable ?_ ?_
 ·refine ⟨?_, ?_, ?_, ?_, ?_, ?_, ?_, ?_, ?_, ?_, ?_, ?_, ?_, ?_, ?_, ?_, trivial⟩
  all_goals go_light
  all_goals intro a W hR hs hd
  all_goals have p0 : a.tmps[0]? = some (.pointer (some ⟨p, 0, none⟩)):=hs.2.2 0 (by decide)
  all_goals have p1 : a.tmps[1]? = some (.int .i64 x):=hs.2.2 1 (by decide)
  all_goals have hRr:=RW.refl r N k l W
  all_goals have hc0 : W.cell? ⟨p, 0, none⟩ = _:=hR.1.cell H.out.cell0 (by simpa using hpr)
  all_goals have hc1 : W.cell? ⟨p, 1, none⟩ = _:=hR.1.cell H.out.cell1 (by simpa using hpr)
  all_goals have hsl:=raw_from_lt W r k.length N (by omega)
  ·refine ov W (.pointer (some ⟨p, 0, none⟩)) ?_ (.mk hRr rfl rfl)
   simp [go_sem, p0]
  ·have q0 : _ = _:=hd.1 rfl
   refine ov W (.pointer (some ⟨p, 0, none⟩)) ?_ (.mk hRr rfl rfl)
   simp [go_sem, q0]
  ·have q1 : _ = _:=hd.1 rfl
   refine ov W (.pointer (some ⟨p, 1, none⟩)) ?_ (.mk hRr rfl rfl)
   simp [go_sem, q1]
  ·have q2 : _ = _:=hd.1 rfl
   refine ov W (.int .i64 k.length) ?_ (.mk hRr rfl rfl)
   simp [go_sem, q2, hc1]
  ·refine ov W (.pointer (some ⟨p, 0, none⟩)) ?_ (.mk hRr rfl rfl)
   simp [go_sem, p0]
  ·have q4 : _ = _:=hd.1 rfl
   refine ov W (.pointer (some ⟨p, 0, none⟩)) ?_ (.mk hRr rfl rfl)
   simp [go_sem, q4]
  ·have q5 : _ = _:=hd.1 rfl
   refine ov W (.pointer (some ⟨p, 0, none⟩)) ?_ (.mk hRr rfl rfl)
   simp [go_sem, q5]
  ·have q6 : _ = _:=hd.1 rfl
   refine ov W (.slice (some ⟨r, 0, none⟩) N N) ?_ (.mk hRr rfl rfl)
   simp [go_sem, q6, hc0]
  ·refine ov W (.pointer (some ⟨p, 0, none⟩)) ?_ (.mk hRr rfl rfl)
   simp [go_sem, p0]
  ·have q8 : _ = _:=hd.1 rfl
   refine ov W (.pointer (some ⟨p, 0, none⟩)) ?_ (.mk hRr rfl rfl)
   simp [go_sem, q8]
  ·have q9 : _ = _:=hd.1 rfl
   refine ov W (.pointer (some ⟨p, 1, none⟩)) ?_ (.mk hRr rfl rfl)
   simp [go_sem, q9]
  ·have q10 : _ = _:=hd.1 rfl
   refine ov W (.int .i64 k.length) ?_ (.mk hRr rfl rfl)
   simp [go_sem, q10, hc1]
  ·have q7 : _ = _:=hd.1 rfl
   have q11 : _ = _:=hd.2.1 rfl
   refine ov W (.slice (some ⟨r, k.length, none⟩) (N - k.length) (N - k.length)) ?_ (.mk hRr rfl rfl)
   simp [go_sem, q7, q11, hsl]
  ·refine ov W (.int .i64 x) ?_ (.mk hRr rfl rfl)
   simp [go_sem, p1]
  ·have q12 : _ = _:=hd.1 rfl
   have q13 : _ = _:=hd.2.1 rfl
   refine ow_call (w':=W) (f:=220) (args:=#[.slice (some ⟨r, k.length, none⟩) (N - k.length) (N - k.length), .int .i64 x]) (by simp [go_sem, q12, q13]) (Tryz.binary_PutVarint r k.length (N - k.length) (N - k.length) x h0 h1 W (by rw [hL]; omega) (fun j hj => ⟨by
    obtain ⟨x, hx⟩:=(hR.2.1 HRAW.out).isCell (j:=k.length + j) (by rw [hL] at hj; omega)
    rw [hx]; rfl, (hR.2.1 HRAW.out).frozen⟩)) ?_
   rintro e w' ⟨rfl, rfl⟩
   rw [hL]
   exact ⟨_, rfl, .mk (RW.puts (r:=r) (N:=N) (k:=k) (l:=l) (Kept.refl [] W) (by omega)) ⟨Raw.puts _ _ _ (hR.2.1 HRAW.out) (by omega), rfl⟩ rfl⟩
  ·have q3 : _ = _:=hd.1 rfl
   have q14:=hd.2.1 rfl
   obtain ⟨-, q14⟩:=q14
   refine ov W (.int .i64 ((k.length + l.length : Nat) : Int)) ?_ (.mk hRr rfl rfl)
   have hw : IntKind.i64.wrap ((k.length : Int) + (l.length : Int)) = (k.length : Int) + (l.length : Int):=by rw [IntWalk.i64_left, IntWalk.wrap64_in _ (by omega)]
   simp [go_sem, q3, q14, hw]
 ·intro f W hR hf
  obtain ⟨f0, f1, f2, f3, f4, f5, f6, f7, f8, f9, f10, f11, f12, f13, f14, f15, -⟩:=hf
  change f 4 = _ at f0
  change f 5 = _ at f1
  change f 6 = _ at f2
  change f 7 = _ at f3
  change f 8 = _ at f4
  change f 9 = _ at f5
  change f 10 = _ at f6
  change f 11 = _ at f7
  change f 12 = _ at f8
  change f 13 = _ at f9
  change f 14 = _ at f10
  change f 15 = _ at f11
  change f 16 = _ at f12
  change f 17 = _ at f13
  change Raw r N (k ++ l) W ∧ (f 18) = .int .i64 l.length at f14
  obtain ⟨x14, g14⟩ : ∃ x, f 18 = x:=⟨_, rfl⟩
  rw [g14] at f14
  change f 19 = _ at f15
  simp only [headDsts, List.take_succ_cons, List.take_zero, List.filterMap_cons, List.filterMap_nil, setAll, f0, f1, f2, f3, f4, f5, f6, f7, f8, f9, f10, f11, f12, f13, g14, f15, List.setIfInBounds_toArray, List.set_cons_succ, List.set_cons_zero, List.drop_succ_cons, List.drop_zero]
  clear f0 f1 f2 f3 f4 f5 f6 f7 f8 f9 f10 f11 f12 f13 g14 f15 f
  have hc1 : W.cell? ⟨p, 1, none⟩ = _:=hR.1.cell H.out.cell1 (by simpa using hpr)
  have hf1 : W.frozen? ⟨p, 1, none⟩ = false:=frozen_kept hR.1 H.out hpr
  have HRAW2:=lh f14.1
  have HK2:=lh hR.1
  have HLL:=lh hL
  clear f14 hR hL
  go_wp2
  refine bodyPost_end (results_none rfl _ _ _) rfl ⟨rfl, H.out.move HK2.out HRAW2.out (by rw [HLEN.out]; go_num), ?_⟩
  exact (HK2.out.mono (by simp)).trans ((kept_set _ _ _ _).mono (by simp)) (fun x hx => .inl hx)
def real_rawF (p r N e : Nat) (k : List UInt8) (y : Value) (ix : Nat) (v : Value) (_ : World) : Prop :=
 match ix with
 | 0 => v = .pointer (some ⟨p, 0, none⟩)
 | 1 => v = .pointer (some ⟨p, 0, none⟩)
 | 2 => v = .pointer (some ⟨p, 0, none⟩)
 | 3 => v = .slice (some ⟨r, 0, none⟩) N N
 | 4 => v = .pointer (some ⟨p, 0, none⟩)
 | 5 => v = .pointer (some ⟨p, 0, none⟩)
 | 6 => v = .pointer (some ⟨p, 1, none⟩)
 | 7 => v = .int .i64 k.length
 | 8 => v = .slice (some ⟨r, e, none⟩) (N - k.length) (N - k.length)
 | 9 => v = y
 | _ => True
theorem real_rawF_stable {p r N e k y} : ∀ ix v w w', real_rawF p r N e k y ix v w → Kept [] w w' → real_rawF p r N e k y ix v w':=by
 intro ix v w w' h k
 unfold real_rawF at h ⊢
 split at h <;> (first | (exact h))
theorem real_raw (p r N : Nat) (st : Value) (k : List UInt8) (w : World) (h : RealAt p r N st k w) (l : List UInt8) (A : Option Addr) (c : Nat) (hA : SlIs w 1 A l.length (Lib.byteCells l)) (hx : k.length + l.length ≤ N) (hN : N ≤ 1000000000) : Calls Tryz.prog 254 #[.pointer (some ⟨p, 0, none⟩), .slice A l.length c] w (RealN p r N st (k ++ l) w):=by
 have H:=lh h
 have HRAW:=lh h.2.1
 have hpr:=h.2.2
 have HLEN : Hid ((k ++ l).length = k.length + l.length):=by unfold Hid; rw [List.length_append]
 have HA:=lh hA
 obtain ⟨e, he⟩ : ∃ e : Nat, (if N = k.length then 0 else k.length) = e:=⟨_, rfl⟩
 clear h hA
 go_enter Tryz.func254, Tryz.ntmps254
 go_wp2
 refine wp_region_facts' 10 (Kept []) (real_rawF p r N e k (.slice A l.length c)) mixed (by kernel_rfl) (Kept.refl _ _).drew (fun _ _ _ h k => h.trans k (fun x hx => .inl hx)) real_rawF_stable ?_ ?_
 ·refine ⟨?_, ?_, ?_, ?_, ?_, ?_, ?_, ?_, ?_, ?_, trivial⟩
  all_goals go_light
  all_goals intro a W hR hs hd
  all_goals have p0 : a.tmps[0]? = some (.pointer (some ⟨p, 0, none⟩)):=hs.2.2 0 (by decide)
  all_goals have p1 : a.tmps[1]? = some (.slice A l.length c):=hs.2.2 1 (by decide)
  all_goals have hRr:=Kept.refl [] W
  all_goals have hc0 : W.cell? ⟨p, 0, none⟩ = _:=hR.cell H.out.cell0 (by simp)
  all_goals have hc1 : W.cell? ⟨p, 1, none⟩ = _:=hR.cell H.out.cell1 (by simp)
  all_goals have hsl:=raw_from W r k.length N (by omega)
  all_goals rw [he] at hsl
  ·refine ov W (.pointer (some ⟨p, 0, none⟩)) ?_ (.mk hRr rfl rfl)
   simp [go_sem, p0]
  ·have q0 : _ = _:=hd.1 rfl
   refine ov W (.pointer (some ⟨p, 0, none⟩)) ?_ (.mk hRr rfl rfl)
   simp [go_sem, q0]
  ·have q1 : _ = _:=hd.1 rfl
   refine ov W (.pointer (some ⟨p, 0, none⟩)) ?_ (.mk hRr rfl rfl)
   simp [go_sem, q1]
  ·have q2 : _ = _:=hd.1 rfl
   refine ov W (.slice (some ⟨r, 0, none⟩) N N) ?_ (.mk hRr rfl rfl)
   simp [go_sem, q2, hc0]
  ·refine ov W (.pointer (some ⟨p, 0, none⟩)) ?_ (.mk hRr rfl rfl)
   simp [go_sem, p0]
  ·have q4 : _ = _:=hd.1 rfl
   refine ov W (.pointer (some ⟨p, 0, none⟩)) ?_ (.mk hRr rfl rfl)
   simp [go_sem, q4]
  ·have q5 : _ = _:=hd.1 rfl
   refine ov W (.pointer (some ⟨p, 1, none⟩)) ?_ (.mk hRr rfl rfl)
   simp [go_sem, q5]
  ·have q6 : _ = _:=hd.1 rfl
   refine ov W (.int .i64 k.length) ?_ (.mk hRr rfl rfl)
   simp [go_sem, q6, hc1]
  ·have q3 : _ = _:=hd.1 rfl
   have q7 : _ = _:=hd.2.1 rfl
   refine ov W (.slice (some ⟨r, e, none⟩) (N - k.length) (N - k.length)) ?_ (.mk hRr rfl rfl)
   simp [go_sem, q3, q7, hsl]
  ·refine ov W (.slice A l.length c) ?_ (.mk hRr rfl rfl)
   simp [go_sem, p1]
 ·intro f W hR hf
  obtain ⟨f0, f1, f2, f3, f4, f5, f6, f7, f8, f9, -⟩:=hf
  change f 5 = _ at f0
  change f 6 = _ at f1
  change f 7 = _ at f2
  change f 8 = _ at f3
  change f 9 = _ at f4
  change f 10 = _ at f5
  change f 11 = _ at f6
  change f 12 = _ at f7
  change f 13 = _ at f8
  change f 14 = _ at f9
  simp only [headDsts, List.take_succ_cons, List.take_zero, List.filterMap_cons, List.filterMap_nil, setAll, f0, f1, f2, f3, f4, f5, f6, f7, f8, f9, List.setIfInBounds_toArray, List.set_cons_succ, List.set_cons_zero, List.drop_succ_cons, List.drop_zero]
  clear f0 f1 f2 f3 f4 f5 f6 f7 f8 f9 f
  obtain ⟨W2, hcopy, hraw, hk2⟩:=copy_raw (c:=c) (HRAW.out.keep hR (by simp)) hx (HA.out.kept hR (by simp))
  rw [he] at hcopy
  clear he
  have hk3 : Kept [r] w W2:=(hR.mono (by simp)).trans hk2 (fun x hx => .inl hx)
  have hc1 : W2.cell? ⟨p, 1, none⟩ = _:=hk3.cell H.out.cell1 (by simpa using hpr)
  have hf1 : W2.frozen? ⟨p, 1, none⟩ = false:=frozen_kept hk3 H.out hpr
  have HRAW2:=lh hraw
  have HK2:=lh hk3
  clear hraw hk2 hk3 hR
  go_wp2
  go_ret
  refine ⟨rfl, H.out.move HK2.out HRAW2.out (by rw [HLEN.out]; go_num), ?_⟩
  exact (HK2.out.mono (by simp)).trans ((kept_set _ _ _ _).mono (by simp)) (fun x hx => .inl hx)
theorem real_string (p r N : Nat) (st : Value) (k0 : List UInt8) (w0 : World) (h : RealAt p r N st k0 w0) (s : ByteArray) (hs : s.size ≤ 32767) (hx : k0.length + (2 + s.size) ≤ N) (hN : N ≤ 1000000000) : Calls Tryz.prog 255 #[.pointer (some ⟨p, 0, none⟩), .string s] w0 (RealN p r N st (k0 ++ (big 2 (s.size : Int) ++ s.data.toList)) w0):=by
 have HI:=lh (real_int16 p r N st k0 w0 h (s.size : Int) (by omega) hN)
 have hw : IntKind.i16.wrap (s.size : Int) = (s.size : Int):=wrap_i16 (by omega) (by omega)
 have HK0 : Hid ((k0 ++ big 2 (s.size : Int)).length = k0.length + 2):=by unfold Hid; rw [List.length_append, big_len]
 have HX0:=lh hx
 have HDS : Hid (s.data.toList.length = s.size):=rfl
 clear h hx
 go_enter Tryz.func255, Tryz.ntmps255
 go_wp2_with ((with_reducible refine HI.out.mono ?_); rintro e w ⟨rfl, h, hkk⟩; have H:=lh h; have HKK:=lh hkk; clear h hkk)
 obtain ⟨k, hk⟩ : ∃ k, k0 ++ big 2 (s.size : Int) = k:=⟨_, rfl⟩
 rw [← List.append_assoc]
 rw [hk] at H HK0 ⊢
 have HRAW:=lh H.out.2.1
 have hpr:=H.out.2.2
 have hx : k.length + s.size ≤ N:=by have:=HK0.out; have:=HX0.out; omega
 have HLEN : Hid ((k ++ s.data.toList).length = k.length + s.size):=by unfold Hid; rw [List.length_append, HDS.out]
 have HKE:=lh hk
 obtain ⟨e, he⟩ : ∃ e : Nat, (if N = k.length then 0 else k.length) = e:=⟨_, rfl⟩
 clear hk
 refine wp_region_facts' 10 (Kept []) (real_rawF p r N e k (.string s)) mixed (by kernel_rfl) (Kept.refl _ _).drew (fun _ _ _ h k => h.trans k (fun x hx => .inl hx)) real_rawF_stable ?_ ?_
 ·refine ⟨?_, ?_, ?_, ?_, ?_, ?_, ?_, ?_, ?_, ?_, trivial⟩
  all_goals go_light
  all_goals intro a W hR hs hd
  all_goals have p0 : a.tmps[0]? = some (.pointer (some ⟨p, 0, none⟩)):=hs.2.2 0 (by decide)
  all_goals have p1 : a.tmps[1]? = some (.string s):=hs.2.2 1 (by decide)
  all_goals have hRr:=Kept.refl [] W
  all_goals have hc0 : W.cell? ⟨p, 0, none⟩ = _:=hR.cell H.out.cell0 (by simp)
  all_goals have hc1 : W.cell? ⟨p, 1, none⟩ = _:=hR.cell H.out.cell1 (by simp)
  all_goals have hsl:=raw_from W r k.length N (by omega)
  all_goals rw [he] at hsl
  ·refine ov W (.pointer (some ⟨p, 0, none⟩)) ?_ (.mk hRr rfl rfl)
   simp [go_sem, p0]
  ·have q0 : _ = _:=hd.1 rfl
   refine ov W (.pointer (some ⟨p, 0, none⟩)) ?_ (.mk hRr rfl rfl)
   simp [go_sem, q0]
  ·have q1 : _ = _:=hd.1 rfl
   refine ov W (.pointer (some ⟨p, 0, none⟩)) ?_ (.mk hRr rfl rfl)
   simp [go_sem, q1]
  ·have q2 : _ = _:=hd.1 rfl
   refine ov W (.slice (some ⟨r, 0, none⟩) N N) ?_ (.mk hRr rfl rfl)
   simp [go_sem, q2, hc0]
  ·refine ov W (.pointer (some ⟨p, 0, none⟩)) ?_ (.mk hRr rfl rfl)
   simp [go_sem, p0]
  ·have q4 : _ = _:=hd.1 rfl
   refine ov W (.pointer (some ⟨p, 0, none⟩)) ?_ (.mk hRr rfl rfl)
   simp [go_sem, q4]
  ·have q5 : _ = _:=hd.1 rfl
   refine ov W (.pointer (some ⟨p, 1, none⟩)) ?_ (.mk hRr rfl rfl)
   simp [go_sem, q5]
  ·have q6 : _ = _:=hd.1 rfl
   refine ov W (.int .i64 k.length) ?_ (.mk hRr rfl rfl)
   simp [go_sem, q6, hc1]
  ·have q3 : _ = _:=hd.1 rfl
   have q7 : _ = _:=hd.2.1 rfl
   refine ov W (.slice (some ⟨r, e, none⟩) (N - k.length) (N - k.length)) ?_ (.mk hRr rfl rfl)
   simp [go_sem, q3, q7, hsl]
  ·refine ov W (.string s) ?_ (.mk hRr rfl rfl)
   simp [go_sem, p1]
 ·intro f W hR hf
  obtain ⟨f0, f1, f2, f3, f4, f5, f6, f7, f8, f9, -⟩:=hf
  change f 10 = _ at f0
  change f 11 = _ at f1
  change f 12 = _ at f2
  change f 13 = _ at f3
  change f 14 = _ at f4
  change f 15 = _ at f5
  change f 16 = _ at f6
  change f 17 = _ at f7
  change f 18 = _ at f8
  change f 19 = _ at f9
  simp only [headDsts, List.take_succ_cons, List.take_zero, List.filterMap_cons, List.filterMap_nil, setAll, f0, f1, f2, f3, f4, f5, f6, f7, f8, f9, List.setIfInBounds_toArray, List.set_cons_succ, List.set_cons_zero, List.drop_succ_cons, List.drop_zero]
  clear f0 f1 f2 f3 f4 f5 f6 f7 f8 f9 f
  obtain ⟨W2, hcopy, hraw, hk2⟩:=copy_str (HRAW.out.keep hR (by simp)) s hx
  rw [he] at hcopy
  clear he
  have hk3 : Kept [r] w W2:=(hR.mono (by simp)).trans hk2 (fun x hx => .inl hx)
  have hc1 : W2.cell? ⟨p, 1, none⟩ = _:=hk3.cell H.out.cell1 (by simpa using hpr)
  have hf1 : W2.frozen? ⟨p, 1, none⟩ = false:=frozen_kept hk3 H.out hpr
  have HRAW2:=lh hraw
  have HK2:=lh hk3
  clear hraw hk2 hk3 hR
  go_wp2
  go_ret
  rw [← List.append_assoc, HKE.out]
  refine ⟨rfl, H.out.move HK2.out HRAW2.out (by rw [HLEN.out]; go_num), ?_⟩
  exact HKK.out.trans ((HK2.out.mono (by simp)).trans ((kept_set _ _ _ _).mono (by simp)) (fun x hx => .inl hx)) (fun x hx => .inl hx)
end Go.Proofs.YtmpjikihnmagoaaGreatDoor
