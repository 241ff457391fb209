/-
  What StepsRead runs: the closure 46. Conditions: right data, twenty at most; the bytes are their form.
-/
import Derived.Test.YtmpjikihnmagoaaGreatDoorZT35
set_option maxRecDepth 100000
set_option maxHeartbeats 3200000
namespace Go.Proofs.YtmpjikihnmagoaaGreatDoor
open Go.RowKit
theorem read_any (fl : Bool) (w : World) (aa : Addr) (N cc : Nat) (A : Option Addr) (c : Nat) (l : List St) (hl : l.length ≤ 20) (hr : ∀ x ∈ l, RightB x) (h64 : ∀ x ∈ l, ∀ y ∈ x.nums, Num64 y) (harr : ∀ (i : Nat) x, l[i]? = some x → x.kind = 8 → x.n ≤ (stepsB fl (l.drop (i + 1))).length) (haa : aa.block < w.heap.size) (hN : (stepsB fl l).length = N) (hNc : N ≤ cc) (hb : SlIs w 1 (some aa) N (Lib.byteCells (stepsB fl l))) (hA : StsAt (· < w.heap.size) w A (l.map pat)) : Calls Tryz.prog 47 #[.slice (some aa) N cc, .slice A l.length c, .bool fl] w (ReadR aa.block l l.length w):=by
 cases fl with
 | true => exact read_true w aa N cc A c l hl hr h64 harr haa hN hNc hb hA
 | false => exact read_false w aa N cc A c l hl hr h64 harr haa hN hNc hb hA
theorem slis_lt7 {w : World} {A : Option Addr} {n : Nat} {xs : List Value} {a : Addr} (h : SlIs w 7 A n xs) (hn : 0 < n) (ha : A = some a) : a.block < w.heap.size:=by
 obtain ⟨b, off, hA, hc⟩:=h.2.2 hn
 have hl:=h.1
 have h1:=hc 0 _ (List.getElem?_eq_getElem (by omega))
 rw [ha] at hA
 cases hA
 exact cell_lt h1
theorem StwAt.lt {X : Nat → Prop} {w : World} {A : Option Addr} {l : List St} (h : StwAt X w A l) : StwAt (fun b => X b ∧ b < w.heap.size) w A l:=by
 obtain ⟨q, h1, h2, h3, h4⟩:=h
 refine ⟨q, h1, h2, fun a e h0 => ⟨h3 a e h0, slis_lt7 h2 h0 e⟩, fun s hs => ?_⟩
 have h5:=h4 s hs
 exact ⟨h5.b, h5.t, h5.n, fun a e h0 => ⟨h5.xb a e h0, slis_lt1 h5.b h0 e⟩, fun a e h0 => ⟨h5.xt a e h0, slis_lt1 h5.t h0 e⟩, fun a e h0 => ⟨h5.xn a e h0, slis_lt1 h5.n h0 e⟩⟩
theorem stw_stable {X : Nat → Prop} {A : Option Addr} {l : List St} {w w' : World} (h : StwAt X w A l) (k : Kept [] w w') : StwAt X w' A l:=h.kept k (fun _ _ => by simp)
theorem info46b : (Tryz.prog.info? 46).map (fun i => (i.zero, i.size, i.bytes)) = some (some (.agg #[.int .i64 0, .int .i64 0, .string ByteArray.empty, .bool false, .slice none 0 0, .slice none 0 0, .slice none 0 0]), 7, 112):=by kernel_rfl
/-- What the closure leaves. -/
def ReadC (l : List St) (n bo bn : Nat) (w w' : World) : Prop:=(∃ A' c', w'.heap[bo]? = some (.cells #[.slice A' n c'] 40 (0, 0)) ∧ StwAt (fun b => w.heap.size ≤ b) w' A' (l.map got)) ∧ w'.heap[bn]? = some (.cells #[.int .i64 0] 3 (0, 0)) ∧ Kept [bo, bn] w w'
def srF (A0 : Option Addr) (m cb : Nat) (A : Option Addr) (n c : Nat) (l : List St) (fl : Bool) (w0 : Nat) (fb : List UInt8) (ix : Nat) (v : Value) (W : World) : Prop :=
 match ix with
 | 0 => v = .slice A0 m cb
 | 1 => ∃ a c1, v = .slice (some a) m c1 ∧ SlIs W 1 (some a) m (Lib.byteCells fb) ∧ w0 ≤ a.block ∧ a.block < W.heap.size ∧ m ≤ c1
 | 2 => v = .slice A n c
 | 3 => ∃ A1 c1, v = .slice A1 n c1 ∧ StsAt (· < W.heap.size) W A1 (l.map pat)
 | 4 => v = .bool fl
 | 5 => ∃ A1 c1, v = .tuple #[.slice A1 n c1, .int .i64 0] ∧ StwAt (fun b => w0 ≤ b) W A1 (l.map got)
 | 6 => ∃ A1 c1, v = .tuple #[.slice A1 n c1, .int .i64 0] ∧ StwAt (fun b => w0 ≤ b) W A1 (l.map got)
 | 7 => ∃ A1 c1, v = .slice A1 n c1 ∧ StwAt (fun b => w0 ≤ b) W A1 (l.map got)
 | 8 => v = .int .i64 0
 | 9 => ∃ A1 c1, v = .slice A1 n c1 ∧ StwAt (fun b => w0 ≤ b) W A1 (l.map got)
 | _ => True
theorem srF_stable {A0 m cb A n c l fl w0 fb} : ∀ ix v w w', srF A0 m cb A n c l fl w0 fb ix v w → Kept [] w w' → srF A0 m cb A n c l fl w0 fb ix v w':=by
 intro ix v w w' h k
 unfold srF at h ⊢
 split at h <;> (first | (exact h) | (obtain ⟨A1, c1, h1, h2⟩:=h; exact ⟨A1, c1, h1, sts_stable h2 k⟩) | (obtain ⟨A1, c1, h1, h2⟩:=h; exact ⟨A1, c1, h1, stw_stable h2 k⟩) | (obtain ⟨a1, c1, h1, h2, h3, h4, h5⟩:=h; exact ⟨a1, c1, h1, h2.kept0 k, h3, lt_kept k _ h4, h5⟩))
def sr4F (u : Value) (z8 z9 : Nat) (y : St) (B1 B2 B3 : Option Addr) (d1 d2 d3 : Nat) (ix : Nat) (v : Value) (W : World) : Prop :=
 match ix with
 | 0 => v = u
 | 1 => v = .pointer (some ⟨z8, 0, none⟩)
 | 2 => v = .int .i64 y.kind
 | 3 => v = .pointer (some ⟨z8, 1, none⟩)
 | 4 => v = .int .i64 y.n
 | 5 => v = .pointer (some ⟨z8, 2, none⟩)
 | 6 => v = .string y.s
 | 7 => v = .pointer (some ⟨z8, 3, none⟩)
 | 8 => v = .bool y.null
 | 9 => v = .pointer (some ⟨z8, 4, none⟩)
 | 10 => v = .slice B1 y.b.length d1
 | 11 => ∃ A5 d5, v = .slice A5 y.b.length d5 ∧ W.ownsRow z9 5 1 (.slice A5 y.b.length d5) y.b.length (Lib.byteCells y.b)
 | 12 => v = .pointer (some ⟨z8, 5, none⟩)
 | 13 => v = .slice B2 y.texts.length d2
 | 14 => v = .pointer (some ⟨z8, 6, none⟩)
 | 15 => v = .slice B3 y.nums.length d3
 | 16 => ∃ A5 d5, v = .agg #[.int .i64 y.kind, .int .i64 y.n, .string y.s, .bool y.null, .slice A5 y.b.length d5, .slice B2 y.texts.length d2, .slice B3 y.nums.length d3] ∧ W.ownsRow z9 5 1 (.slice A5 y.b.length d5) y.b.length (Lib.byteCells y.b)
 | 17 => ∃ A5 d5 g, v = .slice (some ⟨g, 0, none⟩) 1 1 ∧ SlIs W 7 (some ⟨g, 0, none⟩) 1 ([Sq.mk y A5 B2 B3 d5 d2 d3].flatMap Sq.cells) ∧ W.ownsRow z9 5 1 (.slice A5 y.b.length d5) y.b.length (Lib.byteCells y.b)
 | _ => True
theorem sr4F_stable {u z8 z9 y B1 B2 B3 d1 d2 d3} : ∀ ix v w w', sr4F u z8 z9 y B1 B2 B3 d1 d2 d3 ix v w → Kept [] w w' → sr4F u z8 z9 y B1 B2 B3 d1 d2 d3 ix v w':=by
 intro ix v w w' h k
 unfold sr4F at h ⊢
 split at h <;> (first | (exact h) | (obtain ⟨A1, c1, h1, h2⟩:=h; exact ⟨A1, c1, h1, own_kept0 h2 k⟩) | (obtain ⟨A1, c1, g, h1, h2, h3⟩:=h; exact ⟨A1, c1, g, h1, h2.kept0 k, own_kept0 h3 k⟩))
theorem closure46 (fl : Bool) (A0 : Option Addr) (cb : Nat) (A : Option Addr) (c : Nat) (l : List St) (bb bp bf bo bn : Nat) (w : World) (hl : l.length ≤ 20) (hr : ∀ x ∈ l, RightB x) (h64 : ∀ x ∈ l, ∀ y ∈ x.nums, Num64 y) (harr : ∀ (i : Nat) x, l[i]? = some x → x.kind = 8 → x.n ≤ (stepsB fl (l.drop (i + 1))).length) (hb : SlIs w 1 A0 (stepsB fl l).length (Lib.byteCells (stepsB fl l))) (hA : StsAt (· < w.heap.size) w A (l.map pat)) (hcb : w.cell? ⟨bb, 0, none⟩ = some (.slice A0 (stepsB fl l).length cb)) (hcp : w.cell? ⟨bp, 0, none⟩ = some (.slice A l.length c)) (hcf : w.cell? ⟨bf, 0, none⟩ = some (.bool fl)) (ho : w.heap[bo]? = some (.cells #[.slice none 0 0] 40 (0, 0))) (hok : w.heap[bn]? = some (.cells #[.int .i64 0] 3 (0, 0))) (hne : bo ≠ bn) : Calls Tryz.prog 46 #[.pointer (some ⟨bb, 0, none⟩), .pointer (some ⟨bp, 0, none⟩), .pointer (some ⟨bf, 0, none⟩), .pointer (some ⟨bo, 0, none⟩), .pointer (some ⟨bn, 0, none⟩)] w fun e w' => e = .returned (.tuple #[]) ∧ ReadC l l.length bo bn w w':=by
 have hcap:=stepsB_le fl l hr
 have hcopy : ∀ W, Kept [] w W → Calls Tryz.prog 48 #[.slice A0 (stepsB fl l).length cb] W (CopyR (stepsB fl l).length (stepsB fl l) W):=fun W hk => copied_any W A0 _ cb _ rfl (by omega) (hb.kept0 hk)
 have hsteps : ∀ W, Kept [] w W → Calls Tryz.prog 49 #[.slice A l.length c] W (StepsR (l.map pat) l.length W):=fun W hk => by
  have h1:=steps_any W A c (l.map pat) (by rw [List.length_map]; omega) (sts_stable hA hk)
  rw [List.length_map] at h1
  exact h1
 have hread : ∀ W (a1 : Addr) c1 A1 c2, a1.block < W.heap.size → (stepsB fl l).length ≤ c1 → SlIs W 1 (some a1) (stepsB fl l).length (Lib.byteCells (stepsB fl l)) → StsAt (· < W.heap.size) W A1 (l.map pat) → Calls Tryz.prog 47 #[.slice (some a1) (stepsB fl l).length c1, .slice A1 l.length c2, .bool fl] W (ReadR a1.block l l.length W):=fun W a1 c1 A1 c2 h1 h2 h3 h4 => read_any fl W a1 _ c1 A1 c2 l hl hr h64 harr h1 rfl h2 h3 h4
 obtain ⟨n, hn⟩ : ∃ n, l.length = n:=⟨_, rfl⟩
 obtain ⟨fb, hf⟩ : ∃ fb, stepsB fl l = fb:=⟨_, rfl⟩
 obtain ⟨m, hN⟩ : ∃ m, fb.length = m:=⟨_, rfl⟩
 rw [hf, hN] at hcopy hcb hread
 rw [hn] at hsteps hcp hread hl ⊢
 have HCOPY:=lh hcopy
 have HSTEPS:=lh hsteps
 have HREAD:=lh hread
 have HCB:=lh hcb
 have HCP:=lh hcp
 have HCF:=lh hcf
 have HO:=lh ho
 have HOK:=lh hok
 have HR:=lh hr
 have HN:=lh hn
 obtain ⟨w0, hw0⟩ : ∃ w0, w.heap.size = w0:=⟨_, rfl⟩
 have HW0:=lh hw0
 have hbo0 : bo < w0:=by rw [← hw0]; exact (Array.getElem?_eq_some_iff.1 ho).1
 have hbk0 : bn < w0:=by rw [← hw0]; exact (Array.getElem?_eq_some_iff.1 hok).1
 clear hcopy hsteps hread hcb hcp hcf ho hok hA hr h64 harr hb hf hN hn hw0 hcap
 go_enter Tryz.func46, Tryz.ntmps46
 go_wp2
 refine wp_region_facts' 10 (Kept []) (srF A0 m cb A n c l fl w0 fb) mixed (by kernel_rfl) (Kept.refl _ _).drew (fun _ _ _ h k => h.trans k (fun x hx => .inl hx)) srF_stable ?_ ?_
 ·refine ⟨?_, ?_, ?_, ?_, ?_, ?_, ?_, ?_, ?_, ?_, trivial⟩
  all_goals go_light
  all_goals intro a W hR hs hd
  all_goals have p0 : a.tmps[0]? = some (.pointer (some ⟨bb, 0, none⟩)):=hs.2.2 0 (by decide)
  all_goals have p1 : a.tmps[1]? = some (.pointer (some ⟨bp, 0, none⟩)):=hs.2.2 1 (by decide)
  all_goals have p2 : a.tmps[2]? = some (.pointer (some ⟨bf, 0, none⟩)):=hs.2.2 2 (by decide)
  all_goals have hRr : Kept [] W W:=Kept.refl _ _
  all_goals have hc0 : W.cell? ⟨bb, 0, none⟩ = _:=hR.cell HCB.out (by simp)
  all_goals have hc1 : W.cell? ⟨bp, 0, none⟩ = _:=hR.cell HCP.out (by simp)
  all_goals have hc2 : W.cell? ⟨bf, 0, none⟩ = _:=hR.cell HCF.out (by simp)
  ·refine ov W (.slice A0 m cb) ?_ (.mk hRr rfl rfl)
   simp [go_sem, p0, hc0]
  ·have q0 : _ = _:=hd.1 rfl
   refine ow_call (w':=W) (f:=48) (args:=#[.slice A0 m cb]) (by simp [go_sem, q0]) (HCOPY.out W hR) ?_
   rintro e w' ⟨a1, c1, rfl, h1, h2, h3, h4, hk1⟩
   exact ⟨_, rfl, .mk hk1 ⟨a1, c1, rfl, h1, by have:=hR.size; have:=HW0.out; omega, h3, h4⟩ rfl⟩
  ·refine ov W (.slice A n c) ?_ (.mk hRr rfl rfl)
   simp [go_sem, p1, hc1]
  ·have q2 : _ = _:=hd.1 rfl
   refine ow_call (w':=W) (f:=49) (args:=#[.slice A n c]) (by simp [go_sem, q2]) (HSTEPS.out W hR) ?_
   rintro e w' ⟨A1, c1, rfl, hs1, hk1⟩
   exact ⟨_, rfl, .mk hk1 ⟨A1, c1, rfl, hs1⟩ rfl⟩
  ·refine ov W (.bool fl) ?_ (.mk hRr rfl rfl)
   simp [go_sem, p2, hc2]
  ·have q1:=hd.1 rfl
   have q3:=hd.2.1 rfl
   have q4 : _ = _:=hd.2.2.1 rfl
   obtain ⟨a1, c1, q1, h1, h2, h3, h4⟩:=q1
   change _ = _ at q1
   obtain ⟨A1, c2, q3, hs1⟩:=q3
   change _ = _ at q3
   refine ow_call (w':=W) (f:=47) (args:=#[.slice (some a1) m c1, .slice A1 n c2, .bool fl]) (by simp [go_sem, q1, q3, q4]) (HREAD.out W a1 c1 A1 c2 h3 h4 h1 hs1) ?_
   rintro e w' ⟨A9, c9, rfl, hs9, hk1⟩
   exact ⟨_, rfl, .mk hk1 ⟨A9, c9, rfl, hs9.mono fun b hb => by have h8:=hR.size; have h7:=HW0.out; omega⟩ rfl⟩
  ·have q5:=hd.1 rfl
   obtain ⟨A1, c1, q5, hst⟩:=q5
   change _ = _ at q5
   refine ov W (.tuple #[.slice A1 n c1, .int .i64 0]) ?_ (.mk hRr ⟨A1, c1, rfl, hst⟩ rfl)
   simp [go_sem, q5]
  ·have q6:=hd.1 rfl
   obtain ⟨A1, c1, q6, hst⟩:=q6
   change _ = _ at q6
   refine ov W (.slice A1 n c1) ?_ (.mk hRr ⟨A1, c1, rfl, hst⟩ rfl)
   simp [go_sem, q6]
  ·have q6:=hd.1 rfl
   obtain ⟨A1, c1, q6, hst⟩:=q6
   change _ = _ at q6
   refine ov W (.int .i64 0) ?_ (.mk hRr rfl rfl)
   simp [go_sem, q6]
  ·have q7:=hd.1 rfl
   obtain ⟨A1, c1, q7, hst⟩:=q7
   change _ = _ at q7
   refine ov W (.slice A1 n c1) ?_ (.mk hRr ⟨A1, c1, rfl, hst⟩ rfl)
   simp [go_sem, q7]
 ·intro f W hR hf
  obtain ⟨f0, f1, f2, f3, f4, f5, f6, f7, f8, f9, -⟩:=hf
  change f 10 = _ at f0
  change ∃ a c1, (f 11) = .slice (some a) m c1 ∧ SlIs W 1 (some a) m (Lib.byteCells fb) ∧ w0 ≤ a.block ∧ a.block < W.heap.size ∧ m ≤ c1 at f1
  obtain ⟨x1, g1⟩ : ∃ x, f 11 = x:=⟨_, rfl⟩
  rw [g1] at f1
  change f 12 = _ at f2
  change ∃ A1 c1, (f 13) = .slice A1 n c1 ∧ StsAt (· < W.heap.size) W A1 (l.map pat) at f3
  obtain ⟨x3, g3⟩ : ∃ x, f 13 = x:=⟨_, rfl⟩
  rw [g3] at f3
  change f 14 = _ at f4
  change ∃ A1 c1, (f 15) = .tuple #[.slice A1 n c1, .int .i64 0] ∧ StwAt (fun b => w0 ≤ b) W A1 (l.map got) at f5
  obtain ⟨x5, g5⟩ : ∃ x, f 15 = x:=⟨_, rfl⟩
  rw [g5] at f5
  change ∃ A1 c1, (f 9) = .tuple #[.slice A1 n c1, .int .i64 0] ∧ StwAt (fun b => w0 ≤ b) W A1 (l.map got) at f6
  obtain ⟨x6, g6⟩ : ∃ x, f 9 = x:=⟨_, rfl⟩
  rw [g6] at f6
  change ∃ A1 c1, (f 16) = .slice A1 n c1 ∧ StwAt (fun b => w0 ≤ b) W A1 (l.map got) at f7
  obtain ⟨x7, g7⟩ : ∃ x, f 16 = x:=⟨_, rfl⟩
  rw [g7] at f7
  change f 17 = _ at f8
  change ∃ A1 c1, (f 5) = .slice A1 n c1 ∧ StwAt (fun b => w0 ≤ b) W A1 (l.map got) at f9
  obtain ⟨x9, g9⟩ : ∃ x, f 5 = x:=⟨_, rfl⟩
  rw [g9] at f9
  simp only [headDsts, List.take_succ_cons, List.take_zero, List.filterMap_cons, List.filterMap_nil, setAll, f0, g1, f2, g3, f4, g5, g6, g7, f8, g9, List.setIfInBounds_toArray, List.set_cons_succ, List.set_cons_zero, List.drop_succ_cons, List.drop_zero]
  clear f0 g1 f2 g3 f4 g5 g6 g7 f8 g9 f
  obtain ⟨A1, c1, rfl, hst⟩:=f9
  have HSRC0:=lh hst.lt
  have hbo1 : W.heap[bo]? = some (.cells #[.slice none 0 0] 40 (0, 0)):=hR.heap HO.out (by simp)
  have hbk1 : W.heap[bn]? = some (.cells #[.int .i64 0] 3 (0, 0)):=hR.heap HOK.out (by simp)
  have HBO:=lh hbo1
  have HBK:=lh hbk1
  have HKW:=lh hR
  have hz1w : w0 ≤ W.heap.size:=by have h8:=hR.size; have h7:=HW0.out; omega
  obtain ⟨z1, hz1⟩ : ∃ z1, W.heap.size = z1:=⟨_, rfl⟩
  rw [hz1] at HSRC0 hz1w
  have HZ1:=lh hz1
  have hz10 : z1 ≤ W.heap.size:=by omega
  clear hbo1 hbk1 hR hst f1 f3 f5 f6 f7 hz1
  go_wp2
  go_loopw [20] (fun iv wr => ∃ j : Nat, j ≤ n ∧ iv = .int .i64 j ∧ ∃ (u : Value) (q : List Sq), wr.heap[bo]? = some (.cells #[u] 40 (0, 0)) ∧ q.map Sq.x = (l.take j).map got ∧ q.length = j ∧ wr.ownsRow z1 46 7 u j (q.flatMap Sq.cells) ∧ (∀ s ∈ q, StW (fun b => w0 ≤ b ∧ b < wr.heap.size ∧ u.ownBlock ≠ some b) wr s.x s.a1 s.a2 s.a3) ∧ StwAt (fun b => w0 ≤ b ∧ b < z1) wr A1 (l.map got) ∧ wr.heap[bn]? = some (.cells #[.int .i64 0] 3 (0, 0)) ∧ Kept [bo] w wr ∧ z1 ≤ wr.heap.size) (fun iv _ => n - (intOf iv).toNat)
  case atStart => exact ⟨0, Nat.zero_le _, rfl, _, [], HBO.out, rfl, rfl, ⟨rfl, .inl ⟨rfl, rfl⟩⟩, (fun s hs => by cases hs), HSRC0.out, HBK.out, HKW.out.mono (by simp), hz10⟩
  case round =>
   obtain ⟨j, hj, rfl, u, q, hbo, hq, hql, hor, hst, hsrc, hbn, hkr, hzr⟩:=hrel
   have HBO:=lh hbo
   have HQ:=lh hq
   have HQL:=lh hql
   have HOR:=lh hor
   have HST:=lh hst
   have HSRC1:=lh hsrc
   have HBN:=lh hbn
   have HKR:=lh hkr
   clear hbo hq hql hor hst hsrc hbn hkr
   by_cases hlt : j < n
   ·obtain ⟨x, hx⟩ : ∃ x, l[j]? = some x:=⟨_, List.getElem?_eq_getElem (by rw [HN.out]; exact hlt)⟩
    obtain ⟨b, off, B1, B2, B3, d1, d2, d3, hAe, -, hcc0, hstw⟩:=HSRC1.out.at (i:=j) (x:=got x) (by simp [hx])
    have hyb : (got x).b.length ≤ 300:=by
     have h1:=(HR.out x (List.mem_of_getElem? hx)).b300
     unfold got
     split <;> exact h1
    obtain ⟨y, hyx⟩ : ∃ y, got x = y:=⟨_, rfl⟩
    rw [hyx] at hcc0 hstw hyb
    have HYX:=lh hyx
    subst hAe
    have hcc : ∀ j' v, [.int .i64 y.kind, .int .i64 y.n, .string y.s, .bool y.null, .slice B1 y.b.length d1, .slice B2 y.texts.length d2, .slice B3 y.nums.length d3][j']? = some v → wr.cell? ⟨b, off + j * 7 + j', none⟩ = some v:=hcc0
    have HCC:=lh hcc
    have HSV:=lh hstw
    have HYB:=lh hyb
    have HTK2:=lh (take_one hx)
    clear hcc hcc0 hstw hx hyx
    go_wp2_with (first
     | (refine wl_load_struct rfl 102 _ rfl Tryz.underlying102 rfl rfl b (off + j * 7) rfl [.int .i64 y.kind, .int .i64 y.n, .string y.s, .bool y.null, .slice B1 y.b.length d1, .slice B2 y.texts.length d2, .slice B3 y.nums.length d3] rfl HCC.out ?_)
     | (refine wl_store_struct rfl 102 _ _ rfl (cs:=#[.int .i64 y.kind, .int .i64 y.n, .string y.s, .bool y.null, .slice B1 y.b.length d1, .slice B2 y.texts.length d2, .slice B3 y.nums.length d3]) rfl wr.heap.size rfl rfl 102 _ (heap_alloc_new wr _) rfl (by simp [Value.oneCell']) ?_; rw [World.setRow_alloc_new]))
    obtain ⟨W3, hW3⟩ : ∃ W3, wr.alloc (.cells #[.int .i64 y.kind, .int .i64 y.n, .string y.s, .bool y.null, .slice B1 y.b.length d1, .slice B2 y.texts.length d2, .slice B3 y.nums.length d3] 102) = W3:=⟨_, rfl⟩
    have hk3 : Kept [] wr W3:=by rw [← hW3]; exact (Kept.refl [] wr).alloc _
    have hs3 : W3.heap.size = wr.heap.size + 1:=by rw [← hW3, alloc_size]
    have hcs : ∀ j' v, [.int .i64 y.kind, .int .i64 y.n, .string y.s, .bool y.null, .slice B1 y.b.length d1, .slice B2 y.texts.length d2, .slice B3 y.nums.length d3][j']? = some v → W3.cell? ⟨wr.heap.size, j', none⟩ = some v:=fun j' v hv => by
     rw [← hW3]
     have h1:=new_cells wr [.int .i64 y.kind, .int .i64 y.n, .string y.s, .bool y.null, .slice B1 y.b.length d1, .slice B2 y.texts.length d2, .slice B3 y.nums.length d3] 102 j' v hv
     rw [Nat.zero_add] at h1
     exact h1
    rw [hW3]
    simp only [Act.put]
    have HSRC:=lh (HSV.out.kept hk3 (fun _ _ => by simp))
    have HCS:=lh hcs
    have HK3:=lh hk3
    have hbo3 : W3.heap[bo]? = some (.cells #[u] 40 (0, 0)):=hk3.heap HBO.out (by simp)
    have HBO3:=lh hbo3
    obtain ⟨z8, hz8⟩ : ∃ z8, wr.heap.size = z8:=⟨_, rfl⟩
    obtain ⟨z9, hz9⟩ : ∃ z9, W3.heap.size = z9:=⟨_, rfl⟩
    have HZ8:=lh hz8
    have HZ9:=lh hz9
    rw [hz8] at HCS hzr ⊢
    have HZ89 : Hid (z9 = z8 + 1):=lh (by omega)
    clear hW3 hk3 hs3 hcs hbo3 hz8 hz9
    refine wp_region_facts' 18 (Kept []) (sr4F u z8 z9 y B1 B2 B3 d1 d2 d3) mixed (by kernel_rfl) (Kept.refl _ _).drew (fun _ _ _ h k => h.trans k (fun x hx => .inl hx)) sr4F_stable ?_ ?_
    ·refine ⟨?_, ?_, ?_, ?_, ?_, ?_, ?_, ?_, ?_, ?_, ?_, ?_, ?_, ?_, ?_, ?_, ?_, ?_, trivial⟩
     all_goals go_light
     all_goals intro a W hR hs hd
     all_goals have p3 : a.tmps[3]? = some (.pointer (some ⟨bo, 0, none⟩)):=hs.2.2 3 (by decide)
     all_goals have p8 : a.tmps[8]? = some (.pointer (some ⟨z8, 0, none⟩)):=hs.2.2 8 (by decide)
     all_goals have hRr : Kept [] W W:=Kept.refl _ _
     all_goals have hcu : W.cell? ⟨bo, 0, none⟩ = some u:=hR.cell (by have h1:=HBO3.out; simp [World.cell?, h1]) (by simp)
     all_goals have hy0 : W.cell? ⟨z8, 0, none⟩ = _:=hR.cell (HCS.out 0 _ rfl) (by simp)
     all_goals have hy1 : W.cell? ⟨z8, 1, none⟩ = _:=hR.cell (HCS.out 1 _ rfl) (by simp)
     all_goals have hy2 : W.cell? ⟨z8, 2, none⟩ = _:=hR.cell (HCS.out 2 _ rfl) (by simp)
     all_goals have hy3 : W.cell? ⟨z8, 3, none⟩ = _:=hR.cell (HCS.out 3 _ rfl) (by simp)
     all_goals have hy4 : W.cell? ⟨z8, 4, none⟩ = _:=hR.cell (HCS.out 4 _ rfl) (by simp)
     all_goals have hy5 : W.cell? ⟨z8, 5, none⟩ = _:=hR.cell (HCS.out 5 _ rfl) (by simp)
     all_goals have hy6 : W.cell? ⟨z8, 6, none⟩ = _:=hR.cell (HCS.out 6 _ rfl) (by simp)
     ·refine ov W u ?_ (.mk hRr rfl rfl)
      simp [go_sem, p3, hcu]
     ·refine ov W (.pointer (some ⟨z8, 0, none⟩)) ?_ (.mk hRr rfl rfl)
      simp [go_sem, p8]
     ·have q1 : _ = _:=hd.1 rfl
      refine ov W (.int .i64 y.kind) ?_ (.mk hRr rfl rfl)
      simp [go_sem, q1, hy0]
     ·refine ov W (.pointer (some ⟨z8, 1, none⟩)) ?_ (.mk hRr rfl rfl)
      simp [go_sem, p8]
     ·have q3 : _ = _:=hd.1 rfl
      refine ov W (.int .i64 y.n) ?_ (.mk hRr rfl rfl)
      simp [go_sem, q3, hy1]
     ·refine ov W (.pointer (some ⟨z8, 2, none⟩)) ?_ (.mk hRr rfl rfl)
      simp [go_sem, p8]
     ·have q5 : _ = _:=hd.1 rfl
      refine ov W (.string y.s) ?_ (.mk hRr rfl rfl)
      simp [go_sem, q5, hy2]
     ·refine ov W (.pointer (some ⟨z8, 3, none⟩)) ?_ (.mk hRr rfl rfl)
      simp [go_sem, p8]
     ·have q7 : _ = _:=hd.1 rfl
      refine ov W (.bool y.null) ?_ (.mk hRr rfl rfl)
      simp [go_sem, q7, hy3]
     ·refine ov W (.pointer (some ⟨z8, 4, none⟩)) ?_ (.mk hRr rfl rfl)
      simp [go_sem, p8]
     ·have q9 : _ = _:=hd.1 rfl
      refine ov W (.slice B1 y.b.length d1) ?_ (.mk hRr rfl rfl)
      simp [go_sem, q9, hy4]
     ·have q10 : _ = _:=hd.1 rfl
      refine ow_append _ _ 34 rfl z9 5 Tryz.underlying34 info5b rfl (by decide) (.slice none 0 0) 0 [] (by simp [go_sem]) ⟨rfl, .inl ⟨rfl, rfl⟩⟩ B1 y.b.length d1 (Lib.byteCells y.b) (by simp [go_sem, q10]) (HSRC.out.b.kept0 hR) (bytes_one y.b) (by have:=HYB.out; omega) (by have:=HYB.out; omega) (by have h8:=hR.size; have h7:=HZ9.out; omega) ?_
      intro v' w' ho hk _
      rw [Nat.zero_add, List.nil_append] at ho
      obtain ⟨A5, d5, rfl, _, _⟩:=own_sl ho
      exact .mk (hk.mono (by simp [Value.ownBlock])) ⟨A5, d5, rfl, ho⟩ rfl
     ·refine ov W (.pointer (some ⟨z8, 5, none⟩)) ?_ (.mk hRr rfl rfl)
      simp [go_sem, p8]
     ·have q12 : _ = _:=hd.1 rfl
      refine ov W (.slice B2 y.texts.length d2) ?_ (.mk hRr rfl rfl)
      simp [go_sem, q12, hy5]
     ·refine ov W (.pointer (some ⟨z8, 6, none⟩)) ?_ (.mk hRr rfl rfl)
      simp [go_sem, p8]
     ·have q14 : _ = _:=hd.1 rfl
      refine ov W (.slice B3 y.nums.length d3) ?_ (.mk hRr rfl rfl)
      simp [go_sem, q14, hy6]
     ·have q2 : _ = _:=hd.1 rfl
      have q4 : _ = _:=hd.2.1 rfl
      have q6 : _ = _:=hd.2.2.1 rfl
      have q8 : _ = _:=hd.2.2.2.1 rfl
      have q11:=hd.2.2.2.2.1 rfl
      have q13 : _ = _:=hd.2.2.2.2.2.1 rfl
      have q15 : _ = _:=hd.2.2.2.2.2.2.1 rfl
      obtain ⟨A5, d5, q11, ho⟩:=q11
      change _ = _ at q11
      refine ov W (.agg #[.int .i64 y.kind, .int .i64 y.n, .string y.s, .bool y.null, .slice A5 y.b.length d5, .slice B2 y.texts.length d2, .slice B3 y.nums.length d3]) ?_ (.mk hRr ⟨A5, d5, rfl, ho⟩ rfl)
      simp [go_sem, q2, q4, q6, q8, q11, q13, q15]
     ·have q16:=hd.1 rfl
      obtain ⟨A5, d5, q16, ho⟩:=q16
      change _ = _ at q16
      refine ow_value (w':=W.alloc (.cells #[.int .i64 y.kind, .int .i64 y.n, .string y.s, .bool y.null, .slice A5 y.b.length d5, .slice B2 y.texts.length d2, .slice B3 y.nums.length d3] 46)) (v:=.slice (some ⟨W.heap.size, 0, none⟩) 1 1) ?_ (.mk ((Kept.refl _ _).alloc _) ⟨A5, d5, _, rfl, seven_sl W (Sq.mk y A5 B2 B3 d5 d2 d3) rfl 46, own_kept0 ho ((Kept.refl _ _).alloc _)⟩ rfl)
      simp [go_sem, q16]
    ·intro f W4 hR hf
     obtain ⟨f0, f1, f2, f3, f4, f5, f6, f7, f8, f9, f10, f11, f12, f13, f14, f15, f16, f17, -⟩:=hf
     change f 24 = _ at f0
     change f 25 = _ at f1
     change f 26 = _ at f2
     change f 27 = _ at f3
     change f 28 = _ at f4
     change f 29 = _ at f5
     change f 30 = _ at f6
     change f 31 = _ at f7
     change f 32 = _ at f8
     change f 33 = _ at f9
     change f 34 = _ at f10
     change ∃ A5 d5, (f 35) = .slice A5 y.b.length d5 ∧ W4.ownsRow z9 5 1 (.slice A5 y.b.length d5) y.b.length (Lib.byteCells y.b) at f11
     obtain ⟨x11, g11⟩ : ∃ x, f 35 = x:=⟨_, rfl⟩
     rw [g11] at f11
     change f 36 = _ at f12
     change f 37 = _ at f13
     change f 38 = _ at f14
     change f 39 = _ at f15
     change ∃ A5 d5, (f 40) = .agg #[.int .i64 y.kind, .int .i64 y.n, .string y.s, .bool y.null, .slice A5 y.b.length d5, .slice B2 y.texts.length d2, .slice B3 y.nums.length d3] ∧ W4.ownsRow z9 5 1 (.slice A5 y.b.length d5) y.b.length (Lib.byteCells y.b) at f16
     obtain ⟨x16, g16⟩ : ∃ x, f 40 = x:=⟨_, rfl⟩
     rw [g16] at f16
     change ∃ A5 d5 g, (f 41) = .slice (some ⟨g, 0, none⟩) 1 1 ∧ SlIs W4 7 (some ⟨g, 0, none⟩) 1 ([Sq.mk y A5 B2 B3 d5 d2 d3].flatMap Sq.cells) ∧ W4.ownsRow z9 5 1 (.slice A5 y.b.length d5) y.b.length (Lib.byteCells y.b) at f17
     obtain ⟨x17, g17⟩ : ∃ x, f 41 = x:=⟨_, rfl⟩
     rw [g17] at f17
     simp only [headDsts, List.take_succ_cons, List.take_zero, List.filterMap_cons, List.filterMap_nil, setAll, f0, f1, f2, f3, f4, f5, f6, f7, f8, f9, f10, g11, f12, f13, f14, f15, g16, g17, List.setIfInBounds_toArray, List.set_cons_succ, List.set_cons_zero, List.drop_succ_cons, List.drop_zero]
     clear f0 f1 f2 f3 f4 f5 f6 f7 f8 f9 f10 g11 f12 f13 f14 f15 g16 g17 f
     obtain ⟨A5, d5, g17, rfl, hsl17, ho5⟩:=f17
     have HSL17:=lh hsl17
     have HO5:=lh ho5
     have HRW:=lh hR
     have hz4 : z9 ≤ W4.heap.size:=by have h8:=hR.size; have h7:=HZ9.out; omega
     clear f11 f16 ho5 hsl17 hR
     go_wp2_with (at_builtin; refine wl_append rfl _ _ 40 rfl z1 46 Tryz.underlying40 info46b rfl (by decide) u j (q.flatMap Sq.cells) rfl (own_kept0 HOR.out (HK3.out.trans0 HRW.out)) (some ⟨g17, 0, none⟩) 1 1 ([(Sq.mk y A5 B2 B3 d5 d2 d3)].flatMap Sq.cells) rfl HSL17.out (sq_ones _) (by omega) (by omega) (by have h9:=HZ89.out; omega) ?_; intro v' w6 hown6 hk6 hat6; obtain ⟨A6, d6, rfl, _, _⟩:=own_sl hown6; have hbo6 : w6.heap[bo]? = some (.cells #[u] 40 (0, 0)):=hk6.heap (HRW.out.heap HBO3.out (by simp)) (fun hm => by have h9:=own_ge HOR.out bo (by simpa using hm); omega); have HB6:=lh hbo6; have hcb6 : w6.cell? ⟨bo, 0, none⟩ = some u:=(by simp [World.cell?, hbo6]); have hfb6 : w6.frozen? ⟨bo, 0, none⟩ = false:=(by simp [World.frozen?, hbo6]); have HO6:=lh hown6; have HK6:=lh hk6; have HT6:=lh hat6; clear hown6 hk6 hat6 hbo6)
     have hkrW : Kept [] wr W4:=HK3.out.trans0 HRW.out
     have hkW : Kept [] W4 W4:=Kept.refl [] W4
     have hk7 : Kept [bo] w6 (w6.setCell ⟨bo, 0, none⟩ (.slice A6 (j + 1) d6)):=(Kept.refl _ _).setCell (.inl (by simp)) _
     have hUG : ∀ g, u.ownBlock = some g → z1 ≤ g ∧ g < z8:=fun g hg => ⟨own_ge HOR.out g hg, by have h1:=own_lt HOR.out g hg; have h2:=HZ8.out; omega⟩
     have hsz6:=HK6.out.size
     have hsz7:=hk7.size
     have h89:=HZ89.out
     have h8:=HZ8.out
     go_roundw
     case rel =>
      refine ⟨j + 1, by omega, by go_num, .slice A6 (j + 1) d6, q ++ [(Sq.mk y A5 B2 B3 d5 d2 d3)], heap_setCell_same w6 bo 0 _ 40 _ HB6.out, ?_, by rw [List.length_append, HQL.out]; rfl, ?_, ?_, ?_, ?_, ?_, by omega⟩
      ·rw [HTK2.out, List.map_append, List.map_append, HQ.out]
       simp [HYX.out]
      ·rw [List.flatMap_append]
       exact hk7.own HO6.out (fun b hb => by have h1:=own_ge HO6.out b hb; simp; omega)
      ·intro s hs
       have fin : ∀ b, w0 ≤ b → b < W4.heap.size → u.ownBlock ≠ some b → w0 ≤ b ∧ b < (w6.setCell ⟨bo, 0, none⟩ (.slice A6 (j + 1) d6)).heap.size ∧ (Value.slice A6 (j + 1) d6).ownBlock ≠ some b:=fun b h1 h2 h3 => ⟨h1, by omega, fun he => by
        rcases HT6.out with h7 | h7
        ·rw [h7] at he; exact h3 he
        ·rw [h7] at he
         have h4:=Option.some.inj he
         omega⟩
       rcases List.mem_append.1 hs with hs | hs
       ·have hs1:=((HST.out s hs).kept hkrW (fun _ _ => by simp)).kept HK6.out (fun b hb hm => hb.2.2 (by simpa using hm))
        have hs2:=hs1.kept hk7 (fun b hb => by have h1:=hb.1; simp; omega)
        exact hs2.mono fun b hb => fin b hb.1 (by have h1:=hb.2.1; omega) hb.2.2
       ·obtain rfl:=List.mem_singleton.1 hs
        obtain ⟨A5', d5', he5, hsl5, hge5⟩:=own_sl HO5.out
        cases he5
        have hsrcW:=HSRC.out.kept HRW.out (fun _ _ => by simp)
        have hs0 : StW (fun b => w0 ≤ b ∧ b < W4.heap.size ∧ u.ownBlock ≠ some b) W4 y A5 B2 B3:=⟨hsl5, hsrcW.t, hsrcW.n, fun a e _ => by
          have h1:=hge5 a e
          exact ⟨by omega, h1.2, fun hg => by have h2:=hUG _ hg; omega⟩, fun a e h0 => by
          have h1:=hsrcW.xt a e h0
          exact ⟨h1.1, by omega, fun hg => by have h2:=hUG _ hg; omega⟩, fun a e h0 => by
          have h1:=hsrcW.xn a e h0
          exact ⟨h1.1, by omega, fun hg => by have h2:=hUG _ hg; omega⟩⟩
        have hs1:=(hs0.kept hkW (fun _ _ => by simp)).kept HK6.out (fun b hb hm => hb.2.2 (by simpa using hm))
        have hs2:=hs1.kept hk7 (fun b hb => by have h1:=hb.1; simp; omega)
        exact hs2.mono fun b hb => fin b hb.1 hb.2.1 hb.2.2
      ·exact ((HSRC1.out.kept hkrW (fun _ _ => by simp)).kept HK6.out (fun b hb hm => by have h2:=hUG b (by simpa using hm); omega)).kept hk7 (fun b hb => by have h1:=hb.1; simp; omega)
      ·rw [heap_setCell_other _ _ _ _ (by simpa using hne.symm)]
       exact HK6.out.heap (hkrW.heap HBN.out (by simp)) (fun hm => by have h2:=hUG bn (by simpa using hm); omega)
      ·exact ((HKR.out.trans0 hkrW).trans HK6.out (fun g hg => .inr (by have h2:=hUG g (by simpa using hg); have h3:=HW0.out; omega))).trans hk7 (fun x hx => .inl hx)
     case measure => (simp [intOf]) <;> omega
   ·have e : l.take j = l:=List.take_of_length_le (by rw [HN.out]; omega)
    have ej : j = n:=by omega
    subst ej
    rw [e] at HQ
    obtain ⟨A', c', hv', hsl', hge'⟩:=own_sl HOR.out
    subst hv'
    have HSL':=lh hsl'
    have HGE':=lh hge'
    have hcn : wr.cell? ⟨bn, 0, none⟩ = some (.int .i64 0):=by have h1:=HBN.out; simp [World.cell?, h1]
    have hfn : wr.frozen? ⟨bn, 0, none⟩ = false:=by have h1:=HBN.out; simp [World.frozen?, h1]
    clear e hsl' hge'
    go_wp2
    have hk7 : Kept [bn] wr (wr.setCell ⟨bn, 0, none⟩ (.int .i64 0)):=(Kept.refl _ _).setCell (.inl (by simp)) _
    refine bodyPost_end (results_none rfl _ _ _) rfl ⟨rfl, ⟨A', c', ?_, ⟨q, HQ.out, ?_, ?_, ?_⟩⟩, heap_setCell_same wr bn 0 _ 3 _ HBN.out, (HKR.out.mono (by simp)).trans hk7 (fun x hx => .inl (by rw [List.mem_singleton.1 hx]; simp))⟩
    ·rw [heap_setCell_other _ _ _ _ (by simpa using hne)]
     exact HBO.out
    ·rw [List.length_map, HN.out]
     exact HSL'.out.kept hk7 (fun a e => by have h1:=(HGE'.out a e).1; simp; omega)
    ·exact fun a e _ => by have h1:=(HGE'.out a e).1; have h3:=HW0.out; show w.heap.size ≤ a.block; omega
    ·exact fun s hs => ((HST.out s hs).kept hk7 (fun b hb => by have h1:=hb.1; simp; omega)).mono (fun b hb => by have h1:=hb.1; have h3:=HW0.out; show w.heap.size ≤ b; omega)
end Go.Proofs.YtmpjikihnmagoaaGreatDoor
/-
 StepsRead (19): what it answers. Conditions: right data, twenty at most; the bytes are their form.
-/
namespace Go.Proofs.YtmpjikihnmagoaaGreatDoor
open Go.RowKit
/-- A cell that is written with what it holds: nothing changes. -/
theorem setCell_id {w : World} {g i : Nat} {cs : Array Value} {t : TypeId} {v : Value} (hg : w.heap[g]? = some (.cells cs t (0, 0))) (hi : cs[i]? = some v) : w.setCell ⟨g, i, none⟩ v = w:=by
 have hc : cs.setIfInBounds i v = cs:=by
  apply Array.ext
  ·simp
  ·intro j h1 h2
   rw [Array.getElem_setIfInBounds (by simpa using h2)]
   split
   ·rename_i hij
    subst hij
    rw [Array.getElem?_eq_getElem h2] at hi
    exact (Option.some.inj hi).symm
   ·rfl
 have hh : (w.setCell ⟨g, i, none⟩ v).heap = w.heap:=by
  apply Array.ext_getElem?
  intro j
  by_cases hj : j = g
  ·subst hj
   rw [heap_setCell_same w j i cs t v hg, hc, hg]
  ·exact heap_setCell_other w ⟨g, i, none⟩ j v hj
 cases w
 simp only [World.setCell] at hh ⊢
 rw [hh]
def rsF (_z : Nat) (r : Value) (ix : Nat) (v : Value) (_ : World) : Prop :=
 match ix with
 | 0 => v = r
 | 1 => v = .int .i64 0
 | _ => True
theorem rsF_stable {z r} : ∀ ix v w w', rsF z r ix v w → Kept [] w w' → rsF z r ix v w':=by
 intro ix v w w' h k
 unfold rsF at h ⊢
 split at h <;> exact h
/-- What StepsRead leaves. -/
def ReadsR (l : List St) (n : Nat) (w : World) (e : Ending) (w' : World) : Prop:=∃ A' c', e = .returned (.tuple #[.slice A' n c', .int .i64 0]) ∧ StwAt (fun b => w.heap.size ≤ b) w' A' (l.map got) ∧ Kept [] w w'
theorem stepsRead_any (fl : Bool) (A0 : Option Addr) (cb : Nat) (A : Option Addr) (c : Nat) (l : List St) (w : World) (hl : l.length ≤ 20) (hr : ∀ x ∈ l, RightB x) (h64 : ∀ x ∈ l, ∀ y ∈ x.nums, Num64 y) (harr : ∀ (i : Nat) x, l[i]? = some x → x.kind = 8 → x.n ≤ (stepsB fl (l.drop (i + 1))).length) (hb : SlIs w 1 A0 (stepsB fl l).length (Lib.byteCells (stepsB fl l))) (hA : StsAt (· < w.heap.size) w A (l.map pat)) : Calls Tryz.prog 19 #[.slice A0 (stepsB fl l).length cb, .slice A l.length c, .bool fl] w (ReadsR l l.length w):=by
 have hmf : ∀ (fn : Fn) (first cap : Array Value) (w : World), (Instr.makeFunc fn first cap).run Tryz.prog w = .ok (.func fn first cap) w:=fun _ _ _ _ => rfl
 have hcl0:=fun (W : World) (bb bp bf bo bn : Nat) (hk : Kept [] w W) => closure46 fl A0 cb A c l bb bp bf bo bn W hl hr h64 harr (hb.kept0 hk) (sts_stable hA hk)
 obtain ⟨n, hn⟩ : ∃ n, l.length = n:=⟨_, rfl⟩
 obtain ⟨m, hm⟩ : ∃ m, (stepsB fl l).length = m:=⟨_, rfl⟩
 rw [hn] at hcl0 ⊢
 rw [hm] at hcl0 ⊢
 have HCL0:=lh hcl0
 clear hA hr hcl0 hn hb h64 harr hm
 go_enter Tryz.func19, Tryz.ntmps19
 go_wp2_with fail
 obtain ⟨W5, hW5, hs5, hK5, b0, b1, b2, b3, b4⟩:=five_blocks w (Obj.cells #[Value.slice A0 m cb] 34) (Obj.cells #[Value.slice A n c] 40) (Obj.cells #[Value.bool fl] 4) (Obj.cells #[Value.slice none 0 0] 40) (Obj.cells #[Value.int IntKind.i64 0] 3)
 rw [← hW5]
 obtain ⟨z, hz⟩ : ∃ z, w.heap.size = z:=⟨_, rfl⟩
 rw [hz] at hs5 b0 b1 b2 b3 b4 ⊢
 have HZ:=lh hz
 clear hW5
 simp only [Nat.add_assoc, Nat.reduceAdd]
 obtain ⟨W6, hW6⟩ : ∃ W6, W6 = W5.alloc (.cells #[.bool false] 4):=⟨_, rfl⟩
 have hK6 : Kept [] W5 W6:=by rw [hW6]; exact (Kept.refl _ _).alloc _
 have hcell : ∀ {k : Nat} {v : Value} {t : TypeId}, W5.heap[k]? = some (.cells #[v] t (0, 0)) → W6.cell? ⟨k, 0, none⟩ = some v:=fun h => by have:=hK6.heap h (by simp); simp [World.cell?, this]
 have hcl:=HCL0.out W6 z (z + 1) (z + 2) (z + 3) (z + 4) (hK5.trans0 hK6) (hcell b0) (hcell b1) (hcell b2) (hK6.heap b3 (by simp)) (hK6.heap b4 (by simp)) (by omega)
 have h6 : W6.heap[z + 5]? = some (.cells #[.bool false] 4 (0, 0)):=by rw [hW6, ← hs5, heap_alloc_new]
 have hcf : ∀ (args : Array Value) (w : World), (callFunc 46 args).run Tryz.prog w = .ok (.enter 46 args) w:=enters_of Tryz.func46 (by kernel_rfl) rfl
 rw [hW6] at hcl
 have hsafe:=safe_any 46 _ W5 _ (fun W => hcf _ W) hcl (fun W' hR => by
  have hk:=hR.2.2
  rw [hs5]
  refine hk.heap ?_ (by simp)
  rw [← hs5, heap_alloc_new])
 refine hsafe.mono ?_
 rintro e w7 ⟨rfl, W', ⟨⟨A', c', hb3, hst⟩, hb4, hk⟩, hk7⟩
 rw [hs5] at hk7
 have hszW6 : (W5.alloc (.cells #[.bool false] 4)).heap.size = z + 6:=by rw [alloc_size, hs5]
 rw [hszW6] at hst
 have hst7:=hst.kept hk7 (fun b hb => by simp; omega)
 have hb3':=hk7.heap hb3 (by simp)
 have hb4':=hk7.heap hb4 (by simp)
 rw [← hW6] at hk
 have hkw7 : Kept [] w w7:=(((hK5.trans0 hK6).trans hk (fun x hx => .inr (by simp at hx; omega)))).trans hk7 (fun x hx => .inr (by simp at hx; omega))
 have HKW:=lh hkw7
 have HB3:=lh hb3'
 have HB4:=lh hb4'
 have HST:=lh hst7
 clear hk hk7 hb3 hb4 hkw7 hcl hsafe b0 b1 b2 b3 b4 hb3' hb4' h6 hcf hW6 hK5 hK6 hcell HCL0 hszW6 hst hst7
 go_wp2
 refine wp_region_facts' 3 (Kept []) (rsF z (.slice A' n c')) mixed (by kernel_rfl) (Kept.refl _ _).drew (fun _ _ _ h k => h.trans k (fun x hx => .inl hx)) rsF_stable ?_ ?_
 ·refine ⟨?_, ?_, ?_, trivial⟩
  all_goals go_light
  all_goals intro a W hR hs hd
  all_goals have p6 : a.tmps[6]? = some (.pointer (some ⟨z + 3, 0, none⟩)):=hs.2.2 6 (by decide)
  all_goals have p7 : a.tmps[7]? = some (.pointer (some ⟨z + 4, 0, none⟩)):=hs.2.2 7 (by decide)
  all_goals have hRr : Kept [] W W:=Kept.refl [] W
  all_goals have hb3 : W.heap[z + 3]? = _:=hR.heap HB3.out (by simp)
  all_goals have hb4 : W.heap[z + 4]? = _:=hR.heap HB4.out (by simp)
  all_goals have hc3 : W.cell? ⟨z + 3, 0, none⟩ = some (.slice A' n c'):=by simp [World.cell?, hb3]
  all_goals have hc4 : W.cell? ⟨z + 4, 0, none⟩ = some (.int .i64 0):=by simp [World.cell?, hb4]
  all_goals have hf3 : W.frozen? ⟨z + 3, 0, none⟩ = false:=by simp [World.frozen?, hb3]
  ·refine ov W (.slice A' n c') ?_ (.mk hRr rfl rfl)
   simp [go_sem, p6, hc3]
  ·refine ov W (.int .i64 0) ?_ (.mk hRr rfl rfl)
   simp [go_sem, p7, hc4]
  ·have q0 : _ = _:=hd.1 rfl
   have hid:=setCell_id (i:=0) (v:=.slice A' n c') hb3 rfl
   refine ow_skip (w':=W) (by simp [go_sem, p6, q0, hc3, hf3, hid]) ⟨undef, rfl, hRr, trivial, fun _ => trivial⟩
 ·intro f W hR hf
  obtain ⟨f0, f1, -, -⟩:=hf
  change f 10 = _ at f0
  change f 11 = _ at f1
  simp only [headDsts, List.take_succ_cons, List.take_zero, List.filterMap_cons, List.filterMap_nil, setAll, f0, f1, List.setIfInBounds_toArray, List.set_cons_succ, List.set_cons_zero, List.drop_succ_cons, List.drop_zero]
  clear f0 f1 f
  have hb3 : W.heap[z + 3]? = _:=hR.heap HB3.out (by simp)
  have hb4 : W.heap[z + 4]? = _:=hR.heap HB4.out (by simp)
  have hc4 : W.cell? ⟨z + 4, 0, none⟩ = some (.int .i64 0):=by simp [World.cell?, hb4]
  have hf4 : W.frozen? ⟨z + 4, 0, none⟩ = false:=by simp [World.frozen?, hb4]
  have hid:=setCell_id (i:=0) (v:=.int .i64 0) hb4 rfl
  have r3 : W.cell? ⟨z + 3, 0, none⟩ = some (.slice A' n c'):=by simp [World.cell?, hb3]
  have HRW:=lh hR
  clear hR
  go_wp2
  refine bodyPost_ret (v:=.tuple #[.slice A' n c', .int .i64 0]) (by simp [results, Tryz.results19, go_sem, r3, hc4]) rfl ⟨A', c', rfl, (HST.out.kept HRW.out (fun _ _ => by simp)).mono (fun b hb => by have h8:=HZ.out; omega), HKW.out.trans0 HRW.out⟩
end Go.Proofs.YtmpjikihnmagoaaGreatDoor
