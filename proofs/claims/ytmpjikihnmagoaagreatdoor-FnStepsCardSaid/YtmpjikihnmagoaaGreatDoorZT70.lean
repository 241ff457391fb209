/-
  What FnSteps (5) does. Conditions: the data read as they are typed.
-/
import Derived.Test.YtmpjikihnmagoaaGreatDoorZT67
import Derived.Test.YtmpjikihnmagoaaGreatDoorZT47
import Derived.Test.YtmpjikihnmagoaaGreatDoorZB0
set_option maxRecDepth 100000
set_option maxHeartbeats 3200000
namespace Go.Proofs.YtmpjikihnmagoaaGreatDoor
open Go.RowKit
theorem wanted_of {o : Oper} {ops : Array Oper} {tmps : Array Value} {j : Nat} {d : Tmp} {b want : Bool} {oj : Oper} (hg : o.guard = some (j, want)) (hj : ops[j]? = some oj) (hd : oj.dst = some d) (h : tmps[d]?.getD undef = .bool b) : Region.wanted o (yielded ops tmps) = (some b == some want):=by
 simp only [Region.wanted, hg]
 rw [yielded_of hj hd h]
theorem elem40 : Tryz.prog.underlying 40 = some (.slice (Tryz.prog.elem 40)):=by rw [Tryz.underlying40]; kernel_rfl
/-- The data from a place on. -/
theorem sub40 (A : Option Addr) (n c lo : Nat) (h : lo ≤ n) (_hc : n ≤ c) : ∃ A2 c2, (∀ W : World, (Instr.sliceAt 40 (.slice A n c) (some (.int .i64 (lo : Int))) none none).run Tryz.prog W = .ok (.slice A2 (n - lo) c2) W) ∧ (c = lo ∨ A2 = A.map (·.add (lo * 7))):=by
 refine ⟨if c = lo then A else A.map (·.add (lo * 7)), c - lo, fun W => ?_, ?_⟩
 ·rw [run_sliceAt_slice (P:=Tryz.prog) (w:=W) 40 _ _ _ _ elem40, run_slice_l (P:=Tryz.prog) (w:=W) 40 _ _ _ elem40 _ _ (by omega) (by omega)]
  have hs : (sizeOf (Tryz.prog.elem 40)).run Tryz.prog W = .ok 7 W:=by kernel_rfl
  rw [hs]
  simp only [Result.andThen, sliced, Int.toNat_natCast]
 ·by_cases e : c = lo
  ·exact .inl e
  ·rw [if_neg e]
   exact .inr rfl
theorem flat_drop7 : ∀ (q : List Sq) (k : Nat), (q.drop k).flatMap Sq.cells = (q.flatMap Sq.cells).drop (k * 7)
 | [], k => by simp
 | s :: q, 0 => by simp
 | s :: q, k + 1 => by
  rw [List.drop_succ_cons, flat_drop7 q k, List.flatMap_cons]
  have h7 : s.cells.length = 7:=rfl
  rw [show (k + 1) * 7 = s.cells.length + k * 7 by omega, List.drop_append, List.drop_eq_nil_of_le (show s.cells.length ≤ s.cells.length + k * 7 by omega)]
  simp
theorem StwAt.sub {X : Nat → Prop} {w : World} {A A2 : Option Addr} {l : List St} {n c lo : Nat} (h : StwAt X w A l) (hn : l.length = n) (hlo : lo ≤ n) (hc : n ≤ c) (hA : c = lo ∨ A2 = A.map (·.add (lo * 7))) : StwAt X w A2 (l.drop lo):=by
 obtain ⟨q, h1, h2, h3, h4⟩:=h
 have hql : q.length = n:=by rw [← hn, ← h1, List.length_map]
 refine ⟨q.drop lo, by rw [← h1, List.map_drop], ?_, ?_, fun s hs => h4 s (List.mem_of_mem_drop hs)⟩
 ·rw [List.length_drop, flat_drop7]
  refine ⟨by rw [List.length_drop, h2.1]; omega, by have:=h2.2.1; omega, fun hpos => ?_⟩
  obtain ⟨b, off, hAe, hcc⟩:=h2.2.2 (by omega)
  subst hAe
  rcases hA with hA | hA
  ·omega
  ·refine ⟨b, off + lo * 7, by rw [hA]; simp [Addr.add], fun i v hv => ?_⟩
   rw [List.getElem?_drop] at hv
   have h5:=hcc _ _ hv
   rw [show off + lo * 7 + i = off + (lo * 7 + i) by omega]
   exact h5
 ·intro a e h0
  rw [List.length_drop] at h0
  obtain ⟨b, off, hAe, hcc⟩:=h2.2.2 (by omega)
  subst hAe
  rcases hA with hA | hA
  ·omega
  ·rw [hA] at e
   have e2 : (Addr.add ⟨b, off, none⟩ (lo * 7)) = a:=by simpa using e
   have h6:=h3 ⟨b, off, none⟩ rfl (by omega)
   rw [← e2]
   unfold Addr.add
   split <;> exact h6
theorem StwAt.sts {X : Nat → Prop} {w : World} {A : Option Addr} {l : List St} (h : StwAt X w A l) (hA : ∀ a, A = some a → X a.block) : StsAt X w A l:=by
 obtain ⟨q, h1, h2, _, h4⟩:=h
 exact ⟨q, h1, h2, hA, fun s hs => ⟨(h4 s hs).b, (h4 s hs).t, (h4 s hs).n, (h4 s hs).xb, (h4 s hs).xt, (h4 s hs).xn⟩⟩
def fs0F (z : Nat) (ki : Int) (ix : Nat) (v : Value) (_ : World) : Prop :=
 match ix with
 | 0 => v = .pointer (some ⟨z, 0, none⟩)
 | 1 => v = .int .i64 ki
 | 2 => v = .bool false
 | 3 => v = .bool false
 | _ => True
theorem fs0F_stable {z ki} : ∀ ix v w w', fs0F z ki ix v w → Kept [] w w' → fs0F z ki ix v w':=by
 intro ix v w w' h k
 unfold fs0F at h ⊢
 split at h <;> (first | (exact h))
def fs8F (z : Nat) (xn : Int) (A A2 : Option Addr) (n c c2 j m : Nat) (fl : Bool) (ix : Nat) (v : Value) (_ : World) : Prop :=
 match ix with
 | 0 => v = .pointer (some ⟨z, 0, none⟩)
 | 1 => v = .int .i64 8
 | 2 => v = .bool true
 | 3 => v = .bool true
 | 4 => v = .pointer (some ⟨z, 1, none⟩)
 | 5 => v = .int .i64 xn
 | 6 => v = .slice A n c
 | 7 => v = .int .i64 j
 | 8 => v = .int .i64 ((j : Int) + 1)
 | 9 => v = .slice A2 (n - (j + 1)) c2
 | 10 => v = .bool fl
 | 11 => ∃ A3 c3, v = .slice A3 m c3
 | 12 => v = .int .i64 m
 | 13 => v = .bool (decide ((m : Int) < xn))
 | _ => True
theorem fs8F_stable {z xn A A2 n c c2 j m fl} : ∀ ix v w w', fs8F z xn A A2 n c c2 j m fl ix v w → Kept [] w w' → fs8F z xn A A2 n c c2 j m fl ix v w':=by
 intro ix v w w' h k
 unfold fs8F at h ⊢
 split at h <;> (first | (exact h))
theorem fnSteps_walk (fl : Bool) (A : Option Addr) (c : Nat) (l : List (Int × St)) (w : World) (hA : SkAt (· < w.heap.size) w A l) (hAo : ∀ a, A = some a → a.block < w.heap.size) (hc : l.length ≤ c) (h64n : ∀ p ∈ l, Num64 p.2.n) (h64 : ∀ p ∈ l, ∀ y ∈ p.2.nums, Num64 y) (hki : ∀ p ∈ l, p.2.kind = p.1.toNat) : Calls Tryz.prog 5 #[.slice A l.length c, .bool fl] w (fun e w' => e = .returned (.bool true) ∧ Kept [] w w'):=by
 have HF:=lh (fun (W : World) (hk : Kept [] w W) => fits16 l A c W (hA.kept hk (fun _ _ => by simp)))
 have HS:=lh (fun (W : World) (hk : Kept [] w W) => lsteps_any l A c W (hA.kept hk (fun _ _ => by simp)))
 obtain ⟨n, hn⟩ : ∃ n, l.length = n:=⟨_, rfl⟩
 rw [hn] at hc HF HS ⊢
 have HN:=lh hn
 have HA:=lh hA
 have HAO:=lh hAo
 have HC:=lh hc
 have H64N:=lh h64n
 have H64:=lh h64
 have HKI:=lh hki
 clear hn hA hAo hc h64n h64 hki
 go_enter Tryz.func5, Tryz.ntmps5
 go_wp2_with (first
  | ((with_reducible refine (HF.out w (Kept.refl _ _)).mono ?_); rintro e w1 ⟨b1, rfl, hk1⟩; have HK1:=lh hk1; clear hk1; cases b1)
  | ((with_reducible refine (HS.out w1 HK1.out).mono ?_); rintro e w2 ⟨b2, rfl, ht, hk2⟩; have HK2:=lh (HK1.out.trans0 hk2); have HT:=lh ht; clear hk2 ht; cases b2)
  | ((with_reducible refine (recordsAlive_any _).mono ?_); rintro e wa ⟨rfl, hka⟩; have HKa:=lh hka; clear hka))
 ·go_ret
  exact ⟨rfl, HK1.out⟩
 ·go_ret
  exact ⟨rfl, HK2.out.trans0 HKa.out⟩
 ·have hP:=HT.out (by trivial)
  obtain ⟨hn20, hright⟩:=hP
  have hkp : ∀ p ∈ l, p.1 = (p.2.kind : Int):=fun p hp => by
   have h1:=(hright p hp).k0
   have h2:=HKI.out p hp
   omega
  have hst:=HA.out.st hkp
  obtain ⟨ls, hls⟩ : ∃ ls, l.map Prod.snd = ls:=⟨_, rfl⟩
  rw [hls] at hst
  have hlsn : ls.length = n:=by rw [← hls, List.length_map, HN.out]
  have hrb : ∀ x ∈ ls, RightB x:=fun x hx => by
   rw [← hls] at hx
   obtain ⟨p, hp, rfl⟩:=List.mem_map.1 hx
   exact (hright p hp).b (H64N.out p hp) (hkp p hp)
  have h64l : ∀ x ∈ ls, ∀ y ∈ x.nums, Num64 y:=fun x hx => by
   rw [← hls] at hx
   obtain ⟨p, hp, rfl⟩:=List.mem_map.1 hx
   exact H64.out p hp
  have hsts:=hst.sts HAO.out
  obtain ⟨fb, hfb⟩ : ∃ fb, stepsB fl ls = fb:=⟨_, rfl⟩
  obtain ⟨N, hN⟩ : ∃ N, fb.length = N:=⟨_, rfl⟩
  have hcap:=stepsB_le fl ls hrb
  rw [hfb, hN] at hcap
  have HB18 : Hid (∀ W, Kept [] w W → Calls Tryz.prog 18 #[.slice A n c, .bool fl] W (BytesR fb N W)):=lh fun W hk => by
   have h1:=stepsBytes_any fl ls (by omega) hrb h64l A c W (hst.kept hk (fun _ _ => by simp))
   rw [hfb, hN, hlsn] at h1
   exact h1
  have HB22 : Hid (∀ W, Kept [] w W → Calls Tryz.prog 22 #[.slice A n c, .bool fl] W (fun e w' => e = .returned (.tuple #[.int .i64 N, .bool true]) ∧ Kept [] W w')):=lh fun W hk => by
   have h1:=stepsSize_any fl A c ls W (by omega) hrb (sts_stable hsts hk)
   rw [hfb, hN, hlsn] at h1
   exact h1
  have HB23 : Hid (∀ W, Kept [] w W → Calls Tryz.prog 23 #[.slice A n c, .bool fl] W (WroteR fb N W)):=lh fun W hk => by
   have h1:=stepsWrite_any fl A c ls W (by omega) hrb (sts_stable hsts hk)
   rw [hfb, hN, hlsn] at h1
   exact h1
  have HB20 : Hid (∀ W, Kept [] w W → Calls Tryz.prog 20 #[.slice A n c] W (PatsR ls n W)):=lh fun W hk => by
   have h1:=patterns_any W A c ls (by omega) (hst.kept hk (fun _ _ => by simp))
   rw [hlsn] at h1
   exact h1
  have HB19 : Hid (∀ (harr : ∀ (i : Nat) x, ls[i]? = some x → x.kind = 8 → x.n ≤ (stepsB fl (ls.drop (i + 1))).length) (W : World) (A7 : Option Addr) (c7 : Nat) (A8 : Option Addr) (c8 : Nat), SlIs W 1 A7 N (Lib.byteCells fb) → StsAt (· < W.heap.size) W A8 (ls.map pat) → Calls Tryz.prog 19 #[.slice A7 N c7, .slice A8 n c8, .bool fl] W (ReadsR ls n W)):=lh fun harr W A7 c7 A8 c8 h1 h2 => by
   have h3:=stepsRead_any fl A7 c7 A8 c8 ls W (by omega) hrb h64l harr (by rw [hfb, hN]; exact h1) h2
   rw [hfb, hN, hlsn] at h3
   exact h3
  have HB21 : Hid (∀ (W : World) (A9 : Option Addr) (c9 : Nat) (Y : Nat → Prop), Kept [] w W → StwAt Y W A9 (ls.map got) → Calls Tryz.prog 21 #[.slice A n c, .slice A9 n c9] W (fun e w' => e = .returned (.bool true) ∧ Kept [] W w')):=lh fun W A9 c9 Y hk h1 => by
   have h2:=same_any W A A9 c c9 ls (by omega) (hst.kept hk (fun _ _ => by simp)) h1
   rw [hlsn] at h2
   exact h2
  have HBSUB : Hid (∀ (W : World) (A2 : Option Addr) (c2 lo : Nat), Kept [] w W → lo ≤ n → (c = lo ∨ A2 = A.map (·.add (lo * 7))) → Calls Tryz.prog 18 #[.slice A2 (n - lo) c2, .bool fl] W (BytesR (stepsB fl (ls.drop lo)) (stepsB fl (ls.drop lo)).length W)):=lh fun W A2 c2 lo hk hlo hA2 => by
   have h1:=stepsBytes_any fl (ls.drop lo) (by rw [List.length_drop]; omega) (fun x hx => hrb x (List.mem_of_mem_drop hx)) (fun x hx => h64l x (List.mem_of_mem_drop hx)) A2 c2 W ((hst.kept hk (fun _ _ => by simp)).sub hlsn hlo HC.out hA2)
   rw [List.length_drop, hlsn] at h1
   exact h1
  have HLS : Hid (∀ (i : Nat) (ki : Int) (x : St), l[i]? = some (ki, x) → ls[i]? = some x ∧ ki = (x.kind : Int)):=lh fun i ki x hx => ⟨by rw [← hls, List.getElem?_map, hx]; rfl, hkp _ (List.mem_of_getElem? hx)⟩
  have HNN:=lh hN
  have HN20:=lh hn20
  have HLL:=lh hlsn
  clear hright hkp hst hls hlsn hrb h64l hsts hfb hN hcap HT HF HS
  go_loopw [23] (fun iv wr => ∃ j : Nat, j ≤ n ∧ iv = .int .i64 j ∧ (∀ (i : Nat) x, i < j → ls[i]? = some x → x.kind = 8 → x.n ≤ (stepsB fl (ls.drop (i + 1))).length) ∧ Kept [] w wr) (fun iv _ => n - (intOf iv).toNat)
  case atStart => exact ⟨0, Nat.zero_le _, rfl, (fun i x hi => by omega), HK2.out⟩
  case round =>
   obtain ⟨j, hj, rfl, harr, hkr⟩:=hrel
   have HKR:=lh hkr
   have HARR:=lh harr
   clear hkr harr
   by_cases hlt : j < n
   ·obtain ⟨⟨ki, x⟩, hx⟩ : ∃ y, l[j]? = some y:=⟨_, List.getElem?_eq_getElem (by rw [HN.out]; exact hlt)⟩
    obtain ⟨b, off, A1, A2, A3, c1, c2, c3, hAe, hcc0, -⟩:=HA.out.at hx
    obtain ⟨hxj, hkx⟩:=HLS.out j ki x hx
    have HXJ:=lh hxj
    have HKX:=lh hkx
    have hcc : ∀ j' v, [.int .i64 ki, .int .i64 x.n, .string x.s, .bool x.null, .slice A1 x.b.length c1, .slice A2 x.texts.length c2, .slice A3 x.nums.length c3][j']? = some v → wr.cell? ⟨b, off + j * 7 + j', none⟩ = some v:=fun j' v hv => HKR.out.cell (hcc0 j' v hv) (by simp)
    have HCC:=lh hcc
    have HAE:=lh hAe
    clear hcc hcc0 hx hxj hkx
    subst hAe
    go_wp2_with (first
     | (refine wl_load_struct rfl 46 _ rfl Tryz.underlying46 rfl rfl b (off + j * 7) rfl [.int .i64 ki, .int .i64 x.n, .string x.s, .bool x.null, .slice A1 x.b.length c1, .slice A2 x.texts.length c2, .slice A3 x.nums.length c3] rfl HCC.out ?_)
     | (refine wl_store_struct rfl 46 _ _ rfl (cs:=#[.int .i64 ki, .int .i64 x.n, .string x.s, .bool x.null, .slice A1 x.b.length c1, .slice A2 x.texts.length c2, .slice A3 x.nums.length c3]) rfl wr.heap.size rfl rfl 46 _ (heap_alloc_new wr _) rfl (by simp [Value.oneCell']) ?_; rw [World.setRow_alloc_new]))
    obtain ⟨W7, hW7⟩ : ∃ W7, wr.alloc (.cells #[.int .i64 ki, .int .i64 x.n, .string x.s, .bool x.null, .slice A1 x.b.length c1, .slice A2 x.texts.length c2, .slice A3 x.nums.length c3] 46) = W7:=⟨_, rfl⟩
    have hk7 : Kept [] wr W7:=by rw [← hW7]; exact (Kept.refl [] wr).alloc _
    have hrow : W7.heap[wr.heap.size]? = some (.cells #[.int .i64 ki, .int .i64 x.n, .string x.s, .bool x.null, .slice A1 x.b.length c1, .slice A2 x.texts.length c2, .slice A3 x.nums.length c3] 46 (0, 0)):=by rw [← hW7]; exact heap_alloc_new wr _
    rw [hW7]
    obtain ⟨z, hz⟩ : ∃ z, wr.heap.size = z:=⟨_, rfl⟩
    rw [hz] at hrow ⊢
    obtain ⟨xn, hxn⟩ : ∃ xn, x.n = xn:=⟨_, rfl⟩
    rw [hxn] at hrow ⊢
    have HXN:=lh hxn
    have HC0 : Hid (W7.cell? ⟨z, 0, none⟩ = some (.int .i64 ki)):=lh (by simp [World.cell?, hrow])
    have HC1 : Hid (W7.cell? ⟨z, 1, none⟩ = some (.int .i64 xn)):=lh (by simp [World.cell?, hrow])
    have HK7:=lh (HKR.out.trans0 hk7)
    clear hW7 hk7 hrow hz hxn
    by_cases h8 : ki = 8
    ·subst h8
     obtain ⟨B2, d2, hsub0, hB2⟩:=sub40 (some ⟨b, off, none⟩) n c (j + 1) (by omega) HC.out
     have HSUB : Hid (∀ W : World, (Instr.sliceAt 40 (.slice (some ⟨b, off, none⟩) n c) (some (.int .i64 ((j : Int) + 1))) none none).run Tryz.prog W = .ok (.slice B2 (n - (j + 1)) d2) W):=lh hsub0
     obtain ⟨m, hm⟩ : ∃ m, (stepsB fl (ls.drop (j + 1))).length = m:=⟨_, rfl⟩
     have HSUBC : Hid (∀ W, Kept [] W7 W → Calls Tryz.prog 18 #[.slice B2 (n - (j + 1)) d2, .bool fl] W (BytesR (stepsB fl (ls.drop (j + 1))) m W)):=lh fun W hk => by
      have h1:=HBSUB.out W B2 d2 (j + 1) (HK7.out.trans0 hk) (by omega) hB2
      rw [hm] at h1
      exact h1
     have hwj : IntKind.i64.wrap ((j : Int) + 1) = (j : Int) + 1:=by rw [IntWalk.i64_left, IntWalk.wrap64_in _ (by have:=HN20.out; omega)]
     have HM:=lh hm
     have HWJ:=lh hwj
     clear hsub0 hB2 hm
     refine wp_region_gd' 14 (Kept []) (fun _ => Kept []) (fun _ _ => True) (fs8F z xn (some ⟨b, off, none⟩) B2 n c d2 j m fl) mixed (by kernel_rfl) ((Kept.refl _ _).drew) (fun _ _ _ _ h k => h.trans0 k) (fun _ _ => trivial) (fun _ j v w w' _ h k => fs8F_stable j v w w' h k) (fun _ _ _ _ _ _ _ _ => trivial) ?_ ?_
     ·refine ⟨?_, ?_, ?_, ?_, ?_, ?_, ?_, ?_, ?_, ?_, ?_, ?_, ?_, ?_, trivial⟩
      all_goals go_light
      all_goals intro a W hR hpre hs hd
      all_goals have p6 : a.tmps[6]? = some (.pointer (some ⟨z, 0, none⟩)):=hs.2.2 6 (by decide)
      all_goals have p0 : a.tmps[0]? = some (.slice (some ⟨b, off, none⟩) n c):=hs.2.2 0 (by decide)
      all_goals have p1 : a.tmps[1]? = some (.bool fl):=hs.2.2 1 (by decide)
      all_goals have p5 : a.tmps[5]? = some (.int .i64 j):=hs.2.2 5 (by decide)
      all_goals have hRr : Kept [] W W:=Kept.refl [] W
      all_goals have hc0 : W.cell? ⟨z, 0, none⟩ = _:=hR.cell HC0.out (by simp)
      all_goals have hc1 : W.cell? ⟨z, 1, none⟩ = _:=hR.cell HC1.out (by simp)
      all_goals have hsub:=HSUB.out W
      ·refine ⟨fun _ => ?_, fun hw => Bool.noConfusion (show true = false from hw)⟩
       refine ov W (.pointer (some ⟨z, 0, none⟩)) ?_ (.mk hRr rfl rfl)
       simp [go_sem, p6]
      ·have q0 : _ = _:=hd.1 rfl
       refine ⟨fun _ => ?_, fun hw => Bool.noConfusion (show true = false from hw)⟩
       refine ov W (.int .i64 8) ?_ (.mk hRr rfl rfl)
       simp [go_sem, q0, hc0]
      ·have q1 : _ = _:=hd.1 rfl
       refine ⟨fun _ => ?_, fun hw => Bool.noConfusion (show true = false from hw)⟩
       refine ov W (.bool true) ?_ (.mk hRr rfl rfl)
       simp [go_sem, q1]
      ·have q2 : _ = _:=hd.1 rfl
       refine ⟨fun _ => ?_, fun hw => Bool.noConfusion (show true = false from hw)⟩
       refine ov W (.bool true) ?_ (.mk hRr rfl rfl)
       simp [go_sem, q2]
      ·have q3 : _ = _:=hd.1 rfl
       refine ⟨fun _ => ?_, fun hw => absurd (hw.symm.trans (wanted_of rfl rfl rfl q3)) (by decide)⟩
       refine ov W (.pointer (some ⟨z, 1, none⟩)) ?_ (.mk hRr rfl rfl)
       simp [go_sem, p6]
      ·have q4 : _ = _:=hd.1 rfl
       have q3 : _ = _:=hd.2.1 rfl
       refine ⟨fun _ => ?_, fun hw => absurd (hw.symm.trans (wanted_of rfl rfl rfl q3)) (by decide)⟩
       refine ov W (.int .i64 xn) ?_ (.mk hRr rfl rfl)
       simp [go_sem, q4, hc1]
      ·have q3 : _ = _:=hd.1 rfl
       refine ⟨fun _ => ?_, fun hw => absurd (hw.symm.trans (wanted_of rfl rfl rfl q3)) (by decide)⟩
       refine ov W (.slice (some ⟨b, off, none⟩) n c) ?_ (.mk hRr rfl rfl)
       simp [go_sem, p0]
      ·have q3 : _ = _:=hd.1 rfl
       refine ⟨fun _ => ?_, fun hw => absurd (hw.symm.trans (wanted_of rfl rfl rfl q3)) (by decide)⟩
       refine ov W (.int .i64 j) ?_ (.mk hRr rfl rfl)
       simp [go_sem, p5]
      ·have q7 : _ = _:=hd.1 rfl
       have q3 : _ = _:=hd.2.1 rfl
       refine ⟨fun _ => ?_, fun hw => absurd (hw.symm.trans (wanted_of rfl rfl rfl q3)) (by decide)⟩
       refine ov W (.int .i64 ((j : Int) + 1)) ?_ (.mk hRr rfl rfl)
       simp [go_sem, q7, hwj]
      ·have q6 : _ = _:=hd.1 rfl
       have q8 : _ = _:=hd.2.1 rfl
       have q3 : _ = _:=hd.2.2.1 rfl
       refine ⟨fun _ => ?_, fun hw => absurd (hw.symm.trans (wanted_of rfl rfl rfl q3)) (by decide)⟩
       refine ov W (.slice B2 (n - (j + 1)) d2) ?_ (.mk hRr rfl rfl)
       simp [go_sem, q6, q8, hsub]
      ·have q3 : _ = _:=hd.1 rfl
       refine ⟨fun _ => ?_, fun hw => absurd (hw.symm.trans (wanted_of rfl rfl rfl q3)) (by decide)⟩
       refine ov W (.bool fl) ?_ (.mk hRr rfl rfl)
       simp [go_sem, p1]
      ·have q9 : _ = _:=hd.1 rfl
       have q10 : _ = _:=hd.2.1 rfl
       have q3 : _ = _:=hd.2.2.2.1 rfl
       refine ⟨fun _ => ?_, fun hw => absurd (hw.symm.trans (wanted_of rfl rfl rfl q3)) (by decide)⟩
       refine ow_call (w':=W) (f:=18) (args:=#[.slice B2 (n - (j + 1)) d2, .bool fl]) (by simp [go_sem, q9, q10]) (HSUBC.out W hR) ?_
       rintro e w' ⟨u, rfl, hown, hk1⟩
       obtain ⟨A3, c3, rfl, -, -⟩:=own_sl hown
       exact ⟨_, rfl, .mk hk1 ⟨A3, c3, rfl⟩ rfl⟩
      ·have q11:=hd.1 rfl
       have q3 : _ = _:=hd.2.1 rfl
       refine ⟨fun _ => ?_, fun hw => absurd (hw.symm.trans (wanted_of rfl rfl rfl q3)) (by decide)⟩
       obtain ⟨A3, c3, q11⟩:=q11
       change _ = _ at q11
       refine ov W (.int .i64 m) ?_ (.mk hRr rfl rfl)
       simp [go_sem, q11]
      ·have q5 : _ = _:=hd.1 rfl
       have q12 : _ = _:=hd.2.1 rfl
       have q3 : _ = _:=hd.2.2.1 rfl
       refine ⟨fun _ => ?_, fun hw => absurd (hw.symm.trans (wanted_of rfl rfl rfl q3)) (by decide)⟩
       refine ov W (.bool (decide ((m : Int) < xn))) ?_ (.mk hRr rfl rfl)
       simp [go_sem, q5, q12]
     ·intro f W9 hR hf
      obtain ⟨f0, f1, f2, f3, f4, f5, f6, f7, f8, f9, f10, f11, f12, f13, -⟩:=hf
      change f 28 = _ at f0
      change f 29 = _ at f1
      change f 30 = _ at f2
      change f 31 = _ at f3
      change f 32 = _ at f4
      change f 33 = _ at f5
      change f 34 = _ at f6
      change f 35 = _ at f7
      change f 36 = _ at f8
      change f 37 = _ at f9
      change f 38 = _ at f10
      change ∃ A3 c3, (f 39) = .slice A3 m c3 at f11
      obtain ⟨x11, g11⟩ : ∃ x, f 39 = x:=⟨_, rfl⟩
      rw [g11] at f11
      change f 40 = _ at f12
      change f 41 = _ at f13
      simp only [headDsts, List.take_succ_cons, List.take_zero, List.filterMap_cons, List.filterMap_nil, setAll, f0, f1, f2, f3, f4, f5, f6, f7, f8, f9, f10, g11, f12, f13, List.setIfInBounds_toArray, List.set_cons_succ, List.set_cons_zero, List.drop_succ_cons, List.drop_zero]
      clear f0 f1 f2 f3 f4 f5 f6 f7 f8 f9 f10 g11 f12 f13 f
      obtain ⟨A4, c4, rfl⟩:=f11
      have HK9:=lh (HK7.out.trans0 hR)
      clear hR hwj
      by_cases hgt : (m : Int) < xn
      ·go_wp2_with ((with_reducible refine (recordsAlive_any _).mono ?_); rintro e wa ⟨rfl, hka⟩; have HKa:=lh hka; clear hka)
       go_ret
       exact ⟨rfl, HK9.out.trans0 HKa.out⟩
      ·go_wp2
       go_roundw
       case rel => exact ⟨j + 1, by omega, by go_num, (fun i y hi hy h8 => by
        rcases (by omega : i < j ∨ i = j) with h | h
        ·exact HARR.out i y h hy h8
        ·subst h
         have e:=HXJ.out.symm.trans hy
         cases e
         rw [HM.out, HXN.out]
         omega), HK9.out⟩
       case measure => (simp [intOf]) <;> omega
    ·refine wp_region_gd' 14 (Kept []) (fun _ => Kept []) (fun _ _ => True) (fs0F z ki) mixed (by kernel_rfl) ((Kept.refl _ _).drew) (fun _ _ _ _ h k => h.trans0 k) (fun _ _ => trivial) (fun _ j v w w' _ h k => fs0F_stable j v w w' h k) (fun _ _ _ _ _ _ _ _ => trivial) ?_ ?_
     ·refine ⟨?_, ?_, ?_, ?_, ?_, ?_, ?_, ?_, ?_, ?_, ?_, ?_, ?_, ?_, trivial⟩
      all_goals go_light
      all_goals intro a W hR hpre hs hd
      all_goals have p6 : a.tmps[6]? = some (.pointer (some ⟨z, 0, none⟩)):=hs.2.2 6 (by decide)
      all_goals have hRr : Kept [] W W:=Kept.refl [] W
      all_goals have hc0 : W.cell? ⟨z, 0, none⟩ = _:=hR.cell HC0.out (by simp)
      ·refine ⟨fun _ => ?_, fun hw => Bool.noConfusion (show true = false from hw)⟩
       refine ov W (.pointer (some ⟨z, 0, none⟩)) ?_ (.mk hRr rfl rfl)
       simp [go_sem, p6]
      ·have q0 : _ = _:=hd.1 rfl
       refine ⟨fun _ => ?_, fun hw => Bool.noConfusion (show true = false from hw)⟩
       refine ov W (.int .i64 ki) ?_ (.mk hRr rfl rfl)
       simp [go_sem, q0, hc0]
      ·have q1 : _ = _:=hd.1 rfl
       refine ⟨fun _ => ?_, fun hw => Bool.noConfusion (show true = false from hw)⟩
       refine ov W (.bool false) ?_ (.mk hRr rfl rfl)
       simp [go_sem, q1, h8]
      ·have q2 : _ = _:=hd.1 rfl
       refine ⟨fun _ => ?_, fun hw => Bool.noConfusion (show true = false from hw)⟩
       refine ov W (.bool false) ?_ (.mk hRr rfl rfl)
       simp [go_sem, q2]
      ·have q3 : _ = _:=hd.1 rfl
       exact ⟨fun hw => absurd (hw.symm.trans (wanted_of rfl rfl rfl q3)) (by decide), fun _ => ⟨Kept.refl _ _, trivial⟩⟩
      ·have q3 : _ = _:=hd.2.1 rfl
       exact ⟨fun hw => absurd (hw.symm.trans (wanted_of rfl rfl rfl q3)) (by decide), fun _ => ⟨Kept.refl _ _, trivial⟩⟩
      ·have q3 : _ = _:=hd.1 rfl
       exact ⟨fun hw => absurd (hw.symm.trans (wanted_of rfl rfl rfl q3)) (by decide), fun _ => ⟨Kept.refl _ _, trivial⟩⟩
      ·have q3 : _ = _:=hd.1 rfl
       exact ⟨fun hw => absurd (hw.symm.trans (wanted_of rfl rfl rfl q3)) (by decide), fun _ => ⟨Kept.refl _ _, trivial⟩⟩
      ·have q3 : _ = _:=hd.2.1 rfl
       exact ⟨fun hw => absurd (hw.symm.trans (wanted_of rfl rfl rfl q3)) (by decide), fun _ => ⟨Kept.refl _ _, trivial⟩⟩
      ·have q3 : _ = _:=hd.2.2.1 rfl
       exact ⟨fun hw => absurd (hw.symm.trans (wanted_of rfl rfl rfl q3)) (by decide), fun _ => ⟨Kept.refl _ _, trivial⟩⟩
      ·have q3 : _ = _:=hd.1 rfl
       exact ⟨fun hw => absurd (hw.symm.trans (wanted_of rfl rfl rfl q3)) (by decide), fun _ => ⟨Kept.refl _ _, trivial⟩⟩
      ·have q3 : _ = _:=hd.2.2.2.1 rfl
       exact ⟨fun hw => absurd (hw.symm.trans (wanted_of rfl rfl rfl q3)) (by decide), fun _ => ⟨Kept.refl _ _, trivial⟩⟩
      ·have q3 : _ = _:=hd.2.1 rfl
       exact ⟨fun hw => absurd (hw.symm.trans (wanted_of rfl rfl rfl q3)) (by decide), fun _ => ⟨Kept.refl _ _, trivial⟩⟩
      ·have q3 : _ = _:=hd.2.2.1 rfl
       exact ⟨fun hw => absurd (hw.symm.trans (wanted_of rfl rfl rfl q3)) (by decide), fun _ => ⟨Kept.refl _ _, trivial⟩⟩
     ·intro f W9 hR hf
      obtain ⟨f0, f1, f2, f3, f4, f5, f6, f7, f8, f9, f10, f11, f12, f13, -⟩:=hf
      change f 28 = _ at f0
      change f 29 = _ at f1
      change f 30 = _ at f2
      change f 31 = _ at f3
      clear f4
      obtain ⟨x4, f4⟩ : ∃ x, f 32 = x:=⟨_, rfl⟩
      clear f5
      obtain ⟨x5, f5⟩ : ∃ x, f 33 = x:=⟨_, rfl⟩
      clear f6
      obtain ⟨x6, f6⟩ : ∃ x, f 34 = x:=⟨_, rfl⟩
      clear f7
      obtain ⟨x7, f7⟩ : ∃ x, f 35 = x:=⟨_, rfl⟩
      clear f8
      obtain ⟨x8, f8⟩ : ∃ x, f 36 = x:=⟨_, rfl⟩
      clear f9
      obtain ⟨x9, f9⟩ : ∃ x, f 37 = x:=⟨_, rfl⟩
      clear f10
      obtain ⟨x10, f10⟩ : ∃ x, f 38 = x:=⟨_, rfl⟩
      clear f11
      obtain ⟨x11, f11⟩ : ∃ x, f 39 = x:=⟨_, rfl⟩
      clear f12
      obtain ⟨x12, f12⟩ : ∃ x, f 40 = x:=⟨_, rfl⟩
      clear f13
      obtain ⟨x13, f13⟩ : ∃ x, f 41 = x:=⟨_, rfl⟩
      simp only [headDsts, List.take_succ_cons, List.take_zero, List.filterMap_cons, List.filterMap_nil, setAll, f0, f1, f2, f3, f4, f5, f6, f7, f8, f9, f10, f11, f12, f13, List.setIfInBounds_toArray, List.set_cons_succ, List.set_cons_zero, List.drop_succ_cons, List.drop_zero]
      clear f0 f1 f2 f3 f4 f5 f6 f7 f8 f9 f10 f11 f12 f13 f
      have HK9:=lh (HK7.out.trans0 hR)
      clear hR
      go_wp2
      go_roundw
      case rel => exact ⟨j + 1, by omega, by go_num, (fun i y hi hy hk8 => by
       rcases (by omega : i < j ∨ i = j) with h | h
       ·exact HARR.out i y h hy hk8
       ·subst h
        have e:=HXJ.out.symm.trans hy
        cases e
        exact absurd (by rw [HKX.out, hk8]; rfl) h8), HK9.out⟩
      case measure => (simp [intOf]) <;> omega
   ·have harr : ∀ (i : Nat) x, ls[i]? = some x → x.kind = 8 → x.n ≤ (stepsB fl (ls.drop (i + 1))).length:=fun i x hi => HARR.out i x (by have h1:=(List.getElem?_eq_some_iff.1 hi).1; have h2:=HLL.out; omega) hi
    have H19:=lh (HB19.out harr)
    clear harr
    go_wp2_with (first
     | ((with_reducible refine (HB18.out wr HKR.out).mono ?_); rintro e w3 ⟨u, rfl, hown, hk3⟩; obtain ⟨A7, c7, rfl, hsl7, -⟩:=own_sl hown; have HSL7:=lh hsl7; have HK3:=lh (HKR.out.trans0 hk3); clear hown hsl7 hk3)
     | ((with_reducible refine (HB22.out w3 HK3.out).mono ?_); rintro e w4 ⟨rfl, hk4⟩; have HK34:=lh hk4; have HK4:=lh (HK3.out.trans0 hk4); clear hk4)
     | ((with_reducible refine (HB23.out w4 HK4.out).mono ?_); rintro e w5 ⟨a5, c5, rfl, hsl5, -, -, -, hk5⟩; have HSL5:=lh hsl5; have HK35:=lh (HK34.out.trans0 hk5); have HK5:=lh (HK4.out.trans0 hk5); clear hsl5 hk5)
     | ((with_reducible refine (HB20.out w5 HK5.out).mono ?_); rintro e w6 ⟨A6, c6, rfl, hsts6, hk6⟩; have HSTS6:=lh hsts6; have HK56:=lh hk6; have HK6:=lh (HK5.out.trans0 hk6); clear hsts6 hk6)
     | ((with_reducible refine (H19.out w6 A7 c7 A6 c6 (HSL7.out.kept0 (HK35.out.trans0 HK56.out)) HSTS6.out).mono ?_); rintro e w7 ⟨A9, c9, rfl, hst9, hk7⟩; have HST9:=lh hst9; have HK67:=lh hk7; have HK7:=lh (HK6.out.trans0 hk7); clear hst9 hk7)
     | ((with_reducible refine (recordsAlive_any w7).mono ?_); rintro e w8 ⟨rfl, hk8⟩; have HK8:=lh (HK7.out.trans0 hk8); have hcv5:=conv_sl (c:=c5) (HSL5.out.kept0 ((HK56.out.trans0 HK67.out).trans0 hk8)) HNN.out; have hcv7:=conv_sl (c:=c7) (HSL7.out.kept0 (((HK35.out.trans0 HK56.out).trans0 HK67.out).trans0 hk8)) HNN.out; have HST8:=lh (HST9.out.kept hk8 (fun _ _ => by simp)); clear hk8)
     | ((with_reducible refine (HB21.out w8 A9 c9 _ HK8.out HST8.out).mono ?_); rintro e w9 ⟨rfl, hk9⟩; have HK9:=lh (HK8.out.trans0 hk9); clear hk9))
    go_ret
    exact ⟨rfl, HK9.out⟩
end Go.Proofs.YtmpjikihnmagoaaGreatDoor
