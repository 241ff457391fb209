/-
  The sticky strategies' sort of pairs: exchange and comparison (229, 230). Conditions: places inside the row; each pair has as many members that could have it.
-/
import Derived.Test.YtghgffhcdnmpnaaGreatZO7
import Derived.Test.YtghgffhcdnmpnaaGreatZK1
import Derived.Lib.Bytealg
import Derived.Laws.Cover3
namespace Go.Proofs.YtghgffhcdnmpnaaGreat
open Go.RowKit Go.Sort
set_option maxRecDepth 100000 in
theorem run_cmpstr (a b : ByteArray) (w : World) : ∃ r : Int, (callFunc 241 #[.string a, .string b]).run Tryz.prog w = .ok (.value (.int .i64 r)) w := by
  refine ⟨Lib.compareBytes a.data.toList b.data.toList, ?_⟩
  rw [run_callFunc_extern (e := Extern.BytealgCompare.compare) Tryz.func241 (by kernel_rfl) (by kernel_rfl) (by kernel_rfl) (by kernel_rfl)]
  rw [Lib.run_compareString]
  rfl
set_option maxRecDepth 100000 in
theorem compareString_any (a b : ByteArray) (w : World) : Calls Tryz.prog 237 #[.string a, .string b] w fun e w' => ∃ r : Int, e = .returned (.int .i64 r) ∧ Kept [] w w' := by
  obtain ⟨r, hr⟩ := run_cmpstr a b w
  go_enter Tryz.func237, Tryz.ntmps237
  go_wp2
  go_ret
  exact ⟨r, rfl, Kept.refl _ _⟩
set_option maxRecDepth 100000 in
theorem compare_any (a b : ByteArray) (w : World) : Calls Tryz.prog 231 #[.string a, .string b] w fun e w' => ∃ r : Int, e = .returned (.int .i64 r) ∧ Kept [] w w' := by
  have HC := Lib.hid (compareString_any a b w)
  go_enter Tryz.func231, Tryz.ntmps231
  go_wp2_with ((with_reducible refine HC.out.mono ?_); rintro e w1 ⟨r, rfl, hk⟩; have HK := Lib.hid hk; clear hk)
  go_ret
  exact ⟨r, rfl, HK.out⟩
def sw229F (g n c i j : Nat) (x y : ByteArray × Int) (l : List (ByteArray × Int)) (ix : Nat) (v : Value) (W : World) : Prop :=
  match ix with
  | 0 => v = .slice (some ⟨g, 0, none⟩) n c
  | 1 => v = .int .i64 i
  | 2 => v = .slice (some ⟨g, 0, none⟩) n c
  | 3 => v = .int .i64 j
  | 4 => v = .slice (some ⟨g, 0, none⟩) n c
  | 5 => v = .int .i64 j
  | 6 => v = .pointer (some ⟨g, j * 2, none⟩)
  | 7 => v = .agg (tpCells y).toArray
  | 8 => v = .slice (some ⟨g, 0, none⟩) n c
  | 9 => v = .int .i64 i
  | 10 => v = .pointer (some ⟨g, i * 2, none⟩)
  | 11 => v = .agg (tpCells x).toArray
  | 12 => v = .pointer (some ⟨g, i * 2, none⟩)
  | 13 => W.ownsRow 0 268 2 (.slice (some ⟨g, 0, none⟩) n c) n ((l.set i y).flatMap tpCells)
  | _ => True
theorem sw229F_stable {g n c i j x y l} : ∀ i' jx v w w', i' ≠ jx → sw229F g n c i j x y l jx v w → swE g i' w w' → sw229F g n c i j x y l jx v w' := by
  intro i' jx v w w' hij h hk
  unfold sw229F at h ⊢
  split at h <;> (first | (exact h) | skip)
  unfold swE at hk
  split at hk
  · exact absurd rfl hij
  · exact own_kept0 h hk
def sw229Pre (g n c : Nat) (l : List (ByteArray × Int)) (i : Nat) (w : World) : Prop := (i = 7 ∨ i = 11 ∨ i = 13) → w.ownsRow 0 268 2 (.slice (some ⟨g, 0, none⟩) n c) n (l.flatMap tpCells)
set_option maxRecDepth 100000 in
set_option maxHeartbeats 1600000 in
theorem swap229_any (g n c b i j : Nat) (l : List (ByteArray × Int)) (x y : ByteArray × Int) (w : World) (hb : w.cell? ⟨b, 0, none⟩ = some (.slice (some ⟨g, 0, none⟩) n c)) (hbg : b ≠ g) (h : w.ownsRow 0 268 2 (.slice (some ⟨g, 0, none⟩) n c) n (l.flatMap tpCells)) (hx : l[i]? = some x) (hy : l[j]? = some y) (_hn : n ≤ 1000000) :
    Calls Tryz.prog 229 #[.int .i64 i, .int .i64 j, .pointer (some ⟨b, 0, none⟩)] w fun e w' => e = .returned (.tuple #[]) ∧ w'.ownsRow 0 268 2 (.slice (some ⟨g, 0, none⟩) n c) n (((l.set i y).set j x).flatMap tpCells) ∧ Kept [g] w w' := by
  have hln : l.length = n := by have := h.1; rw [flat_len tpCells 2 tp_len] at this; omega
  have hi : i < n := by rw [← hln]; exact (List.getElem?_eq_some_iff.1 hx).1
  have hj : j < n := by rw [← hln]; exact (List.getElem?_eq_some_iff.1 hy).1
  have HX := Lib.hid hx
  have HY := Lib.hid hy
  have HB := Lib.hid hb
  have HO := Lib.hid h
  have HLN := Lib.hid hln
  clear hx hy hb h hln
  go_enter Tryz.func229, Tryz.ntmps229
  go_wp2
  refine wp_region_gd' 14 (Kept [g]) (swE g) (sw229Pre g n c l) (sw229F g n c i j x y l) mixed (by kernel_rfl) ((Kept.refl _ _).drew) (fun i _ _ _ h k => swE_R h k) (fun i _ _ => own_kept0 HO.out ((Kept.refl _ _).drew)) sw229F_stable (fun i' jx w w' hij hwt h hk hj => ?_) ?_ ?_
  · unfold swE at hk
    split at hk
    · rcases hj with rfl | rfl | rfl
      · exact Bool.noConfusion (show true = false from hwt)
      · exact Bool.noConfusion (show true = false from hwt)
      · exact absurd rfl hij
    · exact own_kept0 (h hj) hk
  · refine ⟨?_, ?_, ?_, ?_, ?_, ?_, ?_, ?_, ?_, ?_, ?_, ?_, ?_, ?_, trivial⟩
    all_goals go_light
    all_goals intro a W hR hpre hs hd
    all_goals have p0 : a.tmps[0]? = some (.int .i64 i) := hs.2.2 0 (by decide)
    all_goals have p1 : a.tmps[1]? = some (.int .i64 j) := hs.2.2 1 (by decide)
    all_goals have p2 : a.tmps[2]? = some (.pointer (some ⟨b, 0, none⟩)) := hs.2.2 2 (by decide)
    all_goals have hRr : Kept [] W W := Kept.refl [] W
    all_goals have hcb : W.cell? ⟨b, 0, none⟩ = some (.slice (some ⟨g, 0, none⟩) n c) := hR.cell HB.out (by simpa using hbg)
    · refine ⟨fun _ => ?_, fun hw => Bool.noConfusion (show true = false from hw)⟩
      refine ow_value (w' := W) (v := .slice (some ⟨g, 0, none⟩) n c) ?_ (.mk hRr rfl rfl)
      simp [go_sem, p2, hcb]
    · refine ⟨fun _ => ?_, fun hw => Bool.noConfusion (show true = false from hw)⟩
      refine ow_value (w' := W) (v := .int .i64 i) ?_ (.mk hRr rfl rfl)
      simp [go_sem, p0]
    · refine ⟨fun _ => ?_, fun hw => Bool.noConfusion (show true = false from hw)⟩
      refine ow_value (w' := W) (v := .slice (some ⟨g, 0, none⟩) n c) ?_ (.mk hRr rfl rfl)
      simp [go_sem, p2, hcb]
    · refine ⟨fun _ => ?_, fun hw => Bool.noConfusion (show true = false from hw)⟩
      refine ow_value (w' := W) (v := .int .i64 j) ?_ (.mk hRr rfl rfl)
      simp [go_sem, p1]
    · refine ⟨fun _ => ?_, fun hw => Bool.noConfusion (show true = false from hw)⟩
      refine ow_value (w' := W) (v := .slice (some ⟨g, 0, none⟩) n c) ?_ (.mk hRr rfl rfl)
      simp [go_sem, p2, hcb]
    · refine ⟨fun _ => ?_, fun hw => Bool.noConfusion (show true = false from hw)⟩
      refine ow_value (w' := W) (v := .int .i64 j) ?_ (.mk hRr rfl rfl)
      simp [go_sem, p1]
    · have q4 : _ = _ := hd.1 rfl
      have q5 : _ = _ := hd.2.1 rfl
      refine ⟨fun _ => ?_, fun hw => Bool.noConfusion (show true = false from hw)⟩
      refine ow_value (w' := W) (v := .pointer (some ⟨g, j * 2, none⟩)) ?_ (.mk hRr rfl rfl)
      simp [go_sem, q4, q5, show ¬ n ≤ j by omega]
    · have q6 : _ = _ := hd.1 rfl
      refine ⟨fun _ => ?_, fun hw => Bool.noConfusion (show true = false from hw)⟩
      refine ow_load_struct 268 _ rfl Tryz.underlying268 rfl rfl g (j * 2) (by simp [go_sem, q6]) (tpCells y) rfl (own_cellsG tp_len (by decide) (hpre (by simp)) HY.out) ?_
      exact .mk hRr rfl rfl
    · refine ⟨fun _ => ?_, fun hw => Bool.noConfusion (show true = false from hw)⟩
      refine ow_value (w' := W) (v := .slice (some ⟨g, 0, none⟩) n c) ?_ (.mk hRr rfl rfl)
      simp [go_sem, p2, hcb]
    · refine ⟨fun _ => ?_, fun hw => Bool.noConfusion (show true = false from hw)⟩
      refine ow_value (w' := W) (v := .int .i64 i) ?_ (.mk hRr rfl rfl)
      simp [go_sem, p0]
    · have q8 : _ = _ := hd.1 rfl
      have q9 : _ = _ := hd.2.1 rfl
      refine ⟨fun _ => ?_, fun hw => Bool.noConfusion (show true = false from hw)⟩
      refine ow_value (w' := W) (v := .pointer (some ⟨g, i * 2, none⟩)) ?_ (.mk hRr rfl rfl)
      simp [go_sem, q8, q9, show ¬ n ≤ i by omega]
    · have q10 : _ = _ := hd.1 rfl
      refine ⟨fun _ => ?_, fun hw => Bool.noConfusion (show true = false from hw)⟩
      refine ow_load_struct 268 _ rfl Tryz.underlying268 rfl rfl g (i * 2) (by simp [go_sem, q10]) (tpCells x) rfl (own_cellsG tp_len (by decide) (hpre (by simp)) HX.out) ?_
      exact .mk hRr rfl rfl
    · have q0 : _ = _ := hd.1 rfl
      have q1 : _ = _ := hd.2.1 rfl
      refine ⟨fun _ => ?_, fun hw => Bool.noConfusion (show true = false from hw)⟩
      refine ow_value (w' := W) (v := .pointer (some ⟨g, i * 2, none⟩)) ?_ (.mk hRr rfl rfl)
      simp [go_sem, q0, q1, show ¬ n ≤ i by omega]
    · have q12 : _ = _ := hd.1 rfl
      have q7 : _ = _ := hd.2.1 rfl
      refine ⟨fun _ => ?_, fun hw => Bool.noConfusion (show true = false from hw)⟩
      obtain ⟨w', h1, h2, h3⟩ := own_storeG (P := Tryz.prog) tp_len (by decide) (by kernel_rfl) y (tp_one y) (hpre (by simp)) (show i < n by omega)
      refine ow_store3 268 _ _ rfl g (i * 2) (by simp [go_sem, q12]) (by simp [go_sem, q7]) h1 ?_
      exact ⟨undef, rfl, h3, h2, fun _ => h2⟩
  · intro f W hR hf
    obtain ⟨f0, f1, f2, f3, f4, f5, f6, f7, f8, f9, f10, f11, f12, f13, -⟩ := hf
    change f 5 = _ at f0
    change f 6 = _ at f1
    change f 7 = _ at f2
    change f 8 = _ at f3
    change f 9 = _ at f4
    change f 10 = _ at f5
    change f 11 = _ at f6
    change f 12 = _ at f7
    change f 13 = _ at f8
    change f 14 = _ at f9
    change f 15 = _ at f10
    change f 16 = _ at f11
    change f 17 = _ at f12
    change W.ownsRow 0 268 2 (.slice (some ⟨g, 0, none⟩) n c) n ((l.set i y).flatMap tpCells) at f13
    simp only [headDsts, List.take_succ_cons, List.take_zero, List.filterMap_cons, List.filterMap_nil, setAll, f0, f1, f2, f3, f4, f5, f6, f7, f8, f9, f10, f11, f12, List.setIfInBounds_toArray, List.set_cons_succ, List.set_cons_zero, List.drop_succ_cons, List.drop_zero]
    clear f0 f1 f2 f3 f4 f5 f6 f7 f8 f9 f10 f11 f12 f
    obtain ⟨w3, hw1, hw2, hw3⟩ := own_storeG (P := Tryz.prog) tp_len (by decide) (by kernel_rfl) x (tp_one x) f13 (show j < n by omega)
    have HW1 := Lib.hid hw1
    have HW2 := Lib.hid hw2
    have HW3 := Lib.hid (hR.trans hw3 (fun x hx => .inl hx))
    clear hw1 hw2 hw3 hR f13
    go_wp2_with (refine wl_store3 rfl 268 _ _ rfl g (j * 2) rfl rfl HW1.out ?_)
    exact bodyPost_end (results_none rfl _ _ _) rfl ⟨rfl, HW2.out, HW3.out⟩
def lp1F (g n c i j Pb N cx cy : Nat) (ax ay : Option Addr) (x y : TP) (ix : Nat) (v : Value) (_ : World) : Prop :=
  match ix with
  | 0 => v = .map (some Pb)
  | 1 => v = .slice (some ⟨g, 0, none⟩) n c
  | 2 => v = .int .i64 i
  | 3 => v = .pointer (some ⟨g, i * 2, none⟩)
  | 4 => v = tpEnc x
  | 5 => v = .slice ax N cx
  | 6 => v = .int .i64 N
  | 7 => v = .map (some Pb)
  | 8 => v = .slice (some ⟨g, 0, none⟩) n c
  | 9 => v = .int .i64 j
  | 10 => v = .pointer (some ⟨g, j * 2, none⟩)
  | 11 => v = tpEnc y
  | 12 => v = .slice ay N cy
  | 13 => v = .int .i64 N
  | _ => True
theorem lp1F_stable {g n c i j Pb N cx cy ax ay x y} : ∀ ix v w w', lp1F g n c i j Pb N cx cy ax ay x y ix v w → Kept [] w w' → lp1F g n c i j Pb N cx cy ax ay x y ix v w' := by
  intro ix v w w' h k
  unfold lp1F at h ⊢
  split at h <;> (first | (exact h))
def lp2F (g n c i j _Pb _N _cx _cy : Nat) (_ax _ay : Option Addr) (x y : TP) (ix : Nat) (v : Value) (_ : World) : Prop :=
  match ix with
  | 0 => v = .slice (some ⟨g, 0, none⟩) n c
  | 1 => v = .int .i64 i
  | 2 => v = .pointer (some ⟨g, i * 2, none⟩)
  | 3 => v = .pointer (some ⟨g, i * 2, none⟩)
  | 4 => v = .string x.1
  | 5 => v = .slice (some ⟨g, 0, none⟩) n c
  | 6 => v = .int .i64 j
  | 7 => v = .pointer (some ⟨g, j * 2, none⟩)
  | 8 => v = .pointer (some ⟨g, j * 2, none⟩)
  | 9 => v = .string y.1
  | 10 => ∃ r : Int, v = .int .i64 r
  | _ => True
theorem lp2F_stable {g n c i j Pb N cx cy ax ay x y} : ∀ ix v w w', lp2F g n c i j Pb N cx cy ax ay x y ix v w → Kept [] w w' → lp2F g n c i j Pb N cx cy ax ay x y ix v w' := by
  intro ix v w w' h k
  unfold lp2F at h ⊢
  split at h <;> (first | (exact h))
def lp4F (g n c i j _Pb _N _cx _cy : Nat) (_ax _ay : Option Addr) (x y : TP) (ix : Nat) (v : Value) (_ : World) : Prop :=
  match ix with
  | 0 => v = .slice (some ⟨g, 0, none⟩) n c
  | 1 => v = .int .i64 i
  | 2 => v = .pointer (some ⟨g, i * 2, none⟩)
  | 3 => v = .pointer (some ⟨g, i * 2 + 1, none⟩)
  | 4 => v = .int .i32 x.2
  | 5 => v = .slice (some ⟨g, 0, none⟩) n c
  | 6 => v = .int .i64 j
  | 7 => v = .pointer (some ⟨g, j * 2, none⟩)
  | 8 => v = .pointer (some ⟨g, j * 2 + 1, none⟩)
  | 9 => v = .int .i32 y.2
  | 10 => v = .bool (decide (x.2 < y.2))
  | _ => True
theorem lp4F_stable {g n c i j Pb N cx cy ax ay x y} : ∀ ix v w w', lp4F g n c i j Pb N cx cy ax ay x y ix v w → Kept [] w w' → lp4F g n c i j Pb N cx cy ax ay x y ix v w' := by
  intro ix v w w' h k
  unfold lp4F at h ⊢
  split at h <;> (first | (exact h))
set_option maxRecDepth 100000 in
set_option maxHeartbeats 3200000 in
theorem less230_any (g n c b bm Pb i j N cx cy : Nat) (ax ay : Option Addr) (l : List TP) (m : List (TP × Value)) (x y : TP) (w : World) (hb : w.cell? ⟨b, 0, none⟩ = some (.slice (some ⟨g, 0, none⟩) n c)) (hm : w.cell? ⟨bm, 0, none⟩ = some (.map (some Pb))) (hM : MapIs tpEnc w Pb m)
    (h : w.ownsRow 0 268 2 (.slice (some ⟨g, 0, none⟩) n c) n (l.flatMap tpCells)) (hx : l[i]? = some x) (hy : l[j]? = some y) (hsx : mget m x = some (.slice ax N cx)) (hsy : mget m y = some (.slice ay N cy)) (_hn : n ≤ 1000000) (_hlx : N ≤ 1000000000) :
    Calls Tryz.prog 230 #[.int .i64 i, .int .i64 j, .pointer (some ⟨bm, 0, none⟩), .pointer (some ⟨b, 0, none⟩)] w fun e w' => ∃ r : Bool, e = .returned (.bool r) ∧ Kept [] w w' := by
  have hln : l.length = n := by have := h.1; rw [flat_len tpCells 2 tp_len] at this; omega
  have hi : i < n := by rw [← hln]; exact (List.getElem?_eq_some_iff.1 hx).1
  have hj : j < n := by rw [← hln]; exact (List.getElem?_eq_some_iff.1 hy).1
  have HCX : Hid (∀ a v, [Value.string x.1, .int .i32 x.2][a]? = some v → w.cell? ⟨g, i * 2 + a, none⟩ = some v) := own_cellsG tp_len (by decide) h hx
  have HCY : Hid (∀ a v, [Value.string y.1, .int .i32 y.2][a]? = some v → w.cell? ⟨g, j * 2 + a, none⟩ = some v) := own_cellsG tp_len (by decide) h hy
  have HB := Lib.hid hb
  have HM := Lib.hid hm
  have HMI := Lib.hid hM
  have HPX := Lib.hid hsx
  have HPY := Lib.hid hsy
  clear hx hy hb h hln hm hM hsx hsy
  go_enter Tryz.func230, Tryz.ntmps230
  go_wp2
  refine wp_region_facts' 14 (Kept []) (lp1F g n c i j Pb N cx cy ax ay x y) mixed (by kernel_rfl) ((Kept.refl _ _).drew) (fun _ _ _ h k => h.trans0 k) lp1F_stable ?_ ?_
  · refine ⟨?_, ?_, ?_, ?_, ?_, ?_, ?_, ?_, ?_, ?_, ?_, ?_, ?_, ?_, trivial⟩
    all_goals go_light
    all_goals intro a W hR hs hd
    all_goals have p0 : a.tmps[0]? = some (.int .i64 i) := hs.2.2 0 (by decide)
    all_goals have p1 : a.tmps[1]? = some (.int .i64 j) := hs.2.2 1 (by decide)
    all_goals have p2 : a.tmps[2]? = some (.pointer (some ⟨bm, 0, none⟩)) := hs.2.2 2 (by decide)
    all_goals have p3 : a.tmps[3]? = some (.pointer (some ⟨b, 0, none⟩)) := hs.2.2 3 (by decide)
    all_goals have hRr : Kept [] W W := Kept.refl [] W
    all_goals have hRw := hR
    all_goals have hcb : W.cell? ⟨b, 0, none⟩ = some (.slice (some ⟨g, 0, none⟩) n c) := hRw.cell HB.out (by simp)
    all_goals have hcm : W.cell? ⟨bm, 0, none⟩ = some (.map (some Pb)) := hRw.cell HM.out (by simp)
    all_goals have hcx0 : W.cell? ⟨g, i * 2, none⟩ = some (.string x.1) := hRw.cell (HCX.out 0 _ rfl) (by simp)
    all_goals have hcy0 : W.cell? ⟨g, j * 2, none⟩ = some (.string y.1) := hRw.cell (HCY.out 0 _ rfl) (by simp)
    all_goals have hcx1 : W.cell? ⟨g, i * 2 + 1, none⟩ = some (.int .i32 x.2) := hRw.cell (HCX.out 1 _ rfl) (by simp)
    all_goals have hcy1 : W.cell? ⟨g, j * 2 + 1, none⟩ = some (.int .i32 y.2) := hRw.cell (HCY.out 1 _ rfl) (by simp)
    all_goals have hMt := HMI.out.kept hRw (by simp)
    · refine ow_value (w' := W) (v := .map (some Pb)) ?_ (.mk hRr rfl rfl)
      simp [go_sem, p2, hcm]
    · refine ow_value (w' := W) (v := .slice (some ⟨g, 0, none⟩) n c) ?_ (.mk hRr rfl rfl)
      simp [go_sem, p3, hcb]
    · refine ow_value (w' := W) (v := .int .i64 i) ?_ (.mk hRr rfl rfl)
      simp [go_sem, p0]
    · have q1 : _ = _ := hd.1 rfl
      have q2 : _ = _ := hd.2.1 rfl
      refine ow_value (w' := W) (v := .pointer (some ⟨g, i * 2, none⟩)) ?_ (.mk hRr rfl rfl)
      simp [go_sem, q1, q2, show ¬ n ≤ i by omega]
    · have q3 : _ = _ := hd.1 rfl
      refine ow_load_struct 268 _ rfl Tryz.underlying268 rfl rfl g (i * 2) (by simp [go_sem, q3]) [.string x.1, .int .i32 x.2] rfl (fun a v hv => hRw.cell (HCX.out a v hv) (by simp)) ?_
      exact .mk hRr rfl rfl
    · have q0 : _ = _ := hd.1 rfl
      have q4 : _ = _ := hd.2.1 rfl
      have hl := (MapIs.run_lookup (P := Tryz.prog) tp_keys Tryz.underlying266 hMt (z := .slice none 0 0) (Tryz.zeroValue44 W) x)
      rw [HPX.out] at hl
      refine ow_value (w' := W) (v := .slice ax N cx) ?_ (.mk hRr rfl rfl)
      simp [go_sem, q0, q4, hl]
    · have q5 : _ = _ := hd.1 rfl
      refine ow_value (w' := W) (v := .int .i64 N) ?_ (.mk hRr rfl rfl)
      simp [go_sem, q5]
    · refine ow_value (w' := W) (v := .map (some Pb)) ?_ (.mk hRr rfl rfl)
      simp [go_sem, p2, hcm]
    · refine ow_value (w' := W) (v := .slice (some ⟨g, 0, none⟩) n c) ?_ (.mk hRr rfl rfl)
      simp [go_sem, p3, hcb]
    · refine ow_value (w' := W) (v := .int .i64 j) ?_ (.mk hRr rfl rfl)
      simp [go_sem, p1]
    · have q8 : _ = _ := hd.1 rfl
      have q9 : _ = _ := hd.2.1 rfl
      refine ow_value (w' := W) (v := .pointer (some ⟨g, j * 2, none⟩)) ?_ (.mk hRr rfl rfl)
      simp [go_sem, q8, q9, show ¬ n ≤ j by omega]
    · have q10 : _ = _ := hd.1 rfl
      refine ow_load_struct 268 _ rfl Tryz.underlying268 rfl rfl g (j * 2) (by simp [go_sem, q10]) [.string y.1, .int .i32 y.2] rfl (fun a v hv => hRw.cell (HCY.out a v hv) (by simp)) ?_
      exact .mk hRr rfl rfl
    · have q7 : _ = _ := hd.1 rfl
      have q11 : _ = _ := hd.2.1 rfl
      have hl := (MapIs.run_lookup (P := Tryz.prog) tp_keys Tryz.underlying266 hMt (z := .slice none 0 0) (Tryz.zeroValue44 W) y)
      rw [HPY.out] at hl
      refine ow_value (w' := W) (v := .slice ay N cy) ?_ (.mk hRr rfl rfl)
      simp [go_sem, q7, q11, hl]
    · have q12 : _ = _ := hd.1 rfl
      refine ow_value (w' := W) (v := .int .i64 N) ?_ (.mk hRr rfl rfl)
      simp [go_sem, q12]
  · intro f W hR hf
    obtain ⟨f0, f1, f2, f3, f4, f5, f6, f7, f8, f9, f10, f11, f12, f13, -⟩ := hf
    change f 8 = _ at f0
    change f 9 = _ at f1
    change f 10 = _ at f2
    change f 11 = _ at f3
    change f 12 = _ at f4
    change f 13 = _ at f5
    change f 14 = _ at f6
    change f 15 = _ at f7
    change f 16 = _ at f8
    change f 17 = _ at f9
    change f 18 = _ at f10
    change f 19 = _ at f11
    change f 20 = _ at f12
    change f 21 = _ at f13
    simp only [headDsts, List.take_succ_cons, List.take_zero, List.filterMap_cons, List.filterMap_nil, setAll, f0, f1, f2, f3, f4, f5, f6, f7, f8, f9, f10, f11, f12, f13, List.setIfInBounds_toArray, List.set_cons_succ, List.set_cons_zero, List.drop_succ_cons, List.drop_zero]
    clear f0 f1 f2 f3 f4 f5 f6 f7 f8 f9 f10 f11 f12 f13 f
    have HR := Lib.hid hR
    clear hR
    go_wp2
    refine wp_region_facts' 11 (Kept []) (lp2F g n c i j Pb N cx cy ax ay x y) mixed (by kernel_rfl) ((Kept.refl _ _).drew) (fun _ _ _ h k => h.trans0 k) lp2F_stable ?_ ?_
    · refine ⟨?_, ?_, ?_, ?_, ?_, ?_, ?_, ?_, ?_, ?_, ?_, trivial⟩
      all_goals go_light
      all_goals intro a W hR hs hd
      all_goals have p0 : a.tmps[0]? = some (.int .i64 i) := hs.2.2 0 (by decide)
      all_goals have p1 : a.tmps[1]? = some (.int .i64 j) := hs.2.2 1 (by decide)
      all_goals have p2 : a.tmps[2]? = some (.pointer (some ⟨bm, 0, none⟩)) := hs.2.2 2 (by decide)
      all_goals have p3 : a.tmps[3]? = some (.pointer (some ⟨b, 0, none⟩)) := hs.2.2 3 (by decide)
      all_goals have hRr : Kept [] W W := Kept.refl [] W
      all_goals have hRw := HR.out.trans0 hR
      all_goals have hcb : W.cell? ⟨b, 0, none⟩ = some (.slice (some ⟨g, 0, none⟩) n c) := hRw.cell HB.out (by simp)
      all_goals have hcm : W.cell? ⟨bm, 0, none⟩ = some (.map (some Pb)) := hRw.cell HM.out (by simp)
      all_goals have hcx0 : W.cell? ⟨g, i * 2, none⟩ = some (.string x.1) := hRw.cell (HCX.out 0 _ rfl) (by simp)
      all_goals have hcy0 : W.cell? ⟨g, j * 2, none⟩ = some (.string y.1) := hRw.cell (HCY.out 0 _ rfl) (by simp)
      all_goals have hcx1 : W.cell? ⟨g, i * 2 + 1, none⟩ = some (.int .i32 x.2) := hRw.cell (HCX.out 1 _ rfl) (by simp)
      all_goals have hcy1 : W.cell? ⟨g, j * 2 + 1, none⟩ = some (.int .i32 y.2) := hRw.cell (HCY.out 1 _ rfl) (by simp)
      all_goals have hMt := HMI.out.kept hRw (by simp)
      · refine ow_value (w' := W) (v := .slice (some ⟨g, 0, none⟩) n c) ?_ (.mk hRr rfl rfl)
        simp [go_sem, p3, hcb]
      · refine ow_value (w' := W) (v := .int .i64 i) ?_ (.mk hRr rfl rfl)
        simp [go_sem, p0]
      · have q0 : _ = _ := hd.1 rfl
        have q1 : _ = _ := hd.2.1 rfl
        refine ow_value (w' := W) (v := .pointer (some ⟨g, i * 2, none⟩)) ?_ (.mk hRr rfl rfl)
        simp [go_sem, q0, q1, show ¬ n ≤ i by omega]
      · have q2 : _ = _ := hd.1 rfl
        refine ow_value (w' := W) (v := .pointer (some ⟨g, i * 2, none⟩)) ?_ (.mk hRr rfl rfl)
        simp [go_sem, q2]
      · have q3 : _ = _ := hd.1 rfl
        refine ow_value (w' := W) (v := .string x.1) ?_ (.mk hRr rfl rfl)
        simp [go_sem, q3, hcx0]
      · refine ow_value (w' := W) (v := .slice (some ⟨g, 0, none⟩) n c) ?_ (.mk hRr rfl rfl)
        simp [go_sem, p3, hcb]
      · refine ow_value (w' := W) (v := .int .i64 j) ?_ (.mk hRr rfl rfl)
        simp [go_sem, p1]
      · have q5 : _ = _ := hd.1 rfl
        have q6 : _ = _ := hd.2.1 rfl
        refine ow_value (w' := W) (v := .pointer (some ⟨g, j * 2, none⟩)) ?_ (.mk hRr rfl rfl)
        simp [go_sem, q5, q6, show ¬ n ≤ j by omega]
      · have q7 : _ = _ := hd.1 rfl
        refine ow_value (w' := W) (v := .pointer (some ⟨g, j * 2, none⟩)) ?_ (.mk hRr rfl rfl)
        simp [go_sem, q7]
      · have q8 : _ = _ := hd.1 rfl
        refine ow_value (w' := W) (v := .string y.1) ?_ (.mk hRr rfl rfl)
        simp [go_sem, q8, hcy0]
      · have q4 : _ = _ := hd.1 rfl
        have q9 : _ = _ := hd.2.1 rfl
        refine ow_call (w' := W) (f := 231) (args := #[.string x.1, .string y.1]) (by simp [go_sem, q4, q9]) (compare_any x.1 y.1 W) ?_
        rintro e w'' ⟨r, rfl, hk⟩
        exact ⟨_, rfl, .mk hk ⟨r, rfl⟩ rfl⟩
    · intro f W hR hf
      obtain ⟨f0, f1, f2, f3, f4, f5, f6, f7, f8, f9, f10, -⟩ := hf
      change f 23 = _ at f0
      change f 24 = _ at f1
      change f 25 = _ at f2
      change f 26 = _ at f3
      change f 27 = _ at f4
      change f 28 = _ at f5
      change f 29 = _ at f6
      change f 30 = _ at f7
      change f 31 = _ at f8
      change f 32 = _ at f9
      change ∃ r : Int, (f 33) = .int .i64 r at f10
      obtain ⟨x10, g10⟩ : ∃ x, f 33 = x := ⟨_, rfl⟩
      rw [g10] at f10
      simp only [headDsts, List.take_succ_cons, List.take_zero, List.filterMap_cons, List.filterMap_nil, setAll, f0, f1, f2, f3, f4, f5, f6, f7, f8, f9, g10, List.setIfInBounds_toArray, List.set_cons_succ, List.set_cons_zero, List.drop_succ_cons, List.drop_zero]
      clear f0 f1 f2 f3 f4 f5 f6 f7 f8 f9 g10 f
      obtain ⟨r, rfl⟩ := f10
      have HR2 := Lib.hid (HR.out.trans0 hR)
      clear hR
      by_cases hr0 : r = 0
      · subst hr0
        go_wp2
        refine wp_region_facts' 11 (Kept []) (lp4F g n c i j Pb N cx cy ax ay x y) mixed (by kernel_rfl) ((Kept.refl _ _).drew) (fun _ _ _ h k => h.trans0 k) lp4F_stable ?_ ?_
        · refine ⟨?_, ?_, ?_, ?_, ?_, ?_, ?_, ?_, ?_, ?_, ?_, trivial⟩
          all_goals go_light
          all_goals intro a W hR hs hd
          all_goals have p0 : a.tmps[0]? = some (.int .i64 i) := hs.2.2 0 (by decide)
          all_goals have p1 : a.tmps[1]? = some (.int .i64 j) := hs.2.2 1 (by decide)
          all_goals have p2 : a.tmps[2]? = some (.pointer (some ⟨bm, 0, none⟩)) := hs.2.2 2 (by decide)
          all_goals have p3 : a.tmps[3]? = some (.pointer (some ⟨b, 0, none⟩)) := hs.2.2 3 (by decide)
          all_goals have hRr : Kept [] W W := Kept.refl [] W
          all_goals have hRw := HR2.out.trans0 hR
          all_goals have hcb : W.cell? ⟨b, 0, none⟩ = some (.slice (some ⟨g, 0, none⟩) n c) := hRw.cell HB.out (by simp)
          all_goals have hcm : W.cell? ⟨bm, 0, none⟩ = some (.map (some Pb)) := hRw.cell HM.out (by simp)
          all_goals have hcx0 : W.cell? ⟨g, i * 2, none⟩ = some (.string x.1) := hRw.cell (HCX.out 0 _ rfl) (by simp)
          all_goals have hcy0 : W.cell? ⟨g, j * 2, none⟩ = some (.string y.1) := hRw.cell (HCY.out 0 _ rfl) (by simp)
          all_goals have hcx1 : W.cell? ⟨g, i * 2 + 1, none⟩ = some (.int .i32 x.2) := hRw.cell (HCX.out 1 _ rfl) (by simp)
          all_goals have hcy1 : W.cell? ⟨g, j * 2 + 1, none⟩ = some (.int .i32 y.2) := hRw.cell (HCY.out 1 _ rfl) (by simp)
          all_goals have hMt := HMI.out.kept hRw (by simp)
          · refine ow_value (w' := W) (v := .slice (some ⟨g, 0, none⟩) n c) ?_ (.mk hRr rfl rfl)
            simp [go_sem, p3, hcb]
          · refine ow_value (w' := W) (v := .int .i64 i) ?_ (.mk hRr rfl rfl)
            simp [go_sem, p0]
          · have q0 : _ = _ := hd.1 rfl
            have q1 : _ = _ := hd.2.1 rfl
            refine ow_value (w' := W) (v := .pointer (some ⟨g, i * 2, none⟩)) ?_ (.mk hRr rfl rfl)
            simp [go_sem, q0, q1, show ¬ n ≤ i by omega]
          · have q2 : _ = _ := hd.1 rfl
            refine ow_value (w' := W) (v := .pointer (some ⟨g, i * 2 + 1, none⟩)) ?_ (.mk hRr rfl rfl)
            simp [go_sem, q2]
          · have q3 : _ = _ := hd.1 rfl
            refine ow_value (w' := W) (v := .int .i32 x.2) ?_ (.mk hRr rfl rfl)
            simp [go_sem, q3, hcx1]
          · refine ow_value (w' := W) (v := .slice (some ⟨g, 0, none⟩) n c) ?_ (.mk hRr rfl rfl)
            simp [go_sem, p3, hcb]
          · refine ow_value (w' := W) (v := .int .i64 j) ?_ (.mk hRr rfl rfl)
            simp [go_sem, p1]
          · have q5 : _ = _ := hd.1 rfl
            have q6 : _ = _ := hd.2.1 rfl
            refine ow_value (w' := W) (v := .pointer (some ⟨g, j * 2, none⟩)) ?_ (.mk hRr rfl rfl)
            simp [go_sem, q5, q6, show ¬ n ≤ j by omega]
          · have q7 : _ = _ := hd.1 rfl
            refine ow_value (w' := W) (v := .pointer (some ⟨g, j * 2 + 1, none⟩)) ?_ (.mk hRr rfl rfl)
            simp [go_sem, q7]
          · have q8 : _ = _ := hd.1 rfl
            refine ow_value (w' := W) (v := .int .i32 y.2) ?_ (.mk hRr rfl rfl)
            simp [go_sem, q8, hcy1]
          · have q4 : _ = _ := hd.1 rfl
            have q9 : _ = _ := hd.2.1 rfl
            refine ow_value (w' := W) (v := .bool (decide (x.2 < y.2))) ?_ (.mk hRr rfl rfl)
            simp [go_sem, q4, q9]
        · intro f W hR hf
          obtain ⟨f0, f1, f2, f3, f4, f5, f6, f7, f8, f9, f10, -⟩ := hf
          change f 36 = _ at f0
          change f 37 = _ at f1
          change f 38 = _ at f2
          change f 39 = _ at f3
          change f 40 = _ at f4
          change f 41 = _ at f5
          change f 42 = _ at f6
          change f 43 = _ at f7
          change f 44 = _ at f8
          change f 45 = _ at f9
          change f 46 = _ at f10
          simp only [headDsts, List.take_succ_cons, List.take_zero, List.filterMap_cons, List.filterMap_nil, setAll, f0, f1, f2, f3, f4, f5, f6, f7, f8, f9, f10, List.setIfInBounds_toArray, List.set_cons_succ, List.set_cons_zero, List.drop_succ_cons, List.drop_zero]
          clear f0 f1 f2 f3 f4 f5 f6 f7 f8 f9 f10 f
          have HR3 := Lib.hid (HR2.out.trans0 hR)
          clear hR
          go_wp2
          go_ret
          exact ⟨_, rfl, HR3.out⟩
      · have hr0' : (r == 0) = false := by simpa using hr0
        go_wp2
        go_ret
        exact ⟨_, rfl, HR2.out⟩
end Go.Proofs.YtghgffhcdnmpnaaGreat
/-
  The sticky strategies' pairs in order (209, 196). Conditions: each pair has as many members that could have it; a million pairs at most.
-/
namespace Go.Proofs.YtghgffhcdnmpnaaGreat
open Go.RowKit Go.Sort
theorem made_tp : ∀ n, (madeCells (Value.agg #[.string ByteArray.empty, .int .i32 0]).cells (n * 2)).toList = (List.replicate n ((ByteArray.empty, 0) : TP)).flatMap tpCells := by
  intro n
  have hl : ((List.replicate n ((ByteArray.empty, 0) : TP)).flatMap tpCells).length = n * 2 := by rw [flat_len tpCells 2 tp_len, List.length_replicate]
  apply List.ext_getElem?
  intro k
  by_cases hk : k < n * 2
  · have hd : k / 2 < n := by omega
    have hm : k % 2 < 2 := Nat.mod_lt _ (by decide)
    have hkk : k / 2 * 2 + k % 2 = k := by omega
    have h1 := flat_get tpCells 2 tp_len (by decide) (List.replicate n ((ByteArray.empty, 0) : TP)) (k / 2) (k % 2) hm
    rw [hkk] at h1
    rw [h1, List.getElem?_replicate, if_pos hd]
    unfold madeCells
    rw [Array.getElem?_toList, Array.getElem?_map, Array.getElem?_range, if_pos hk]
    rcases Nat.lt_or_ge (k % 2) 1 with h | h
    · have : k % 2 = 0 := by omega
      simp [Value.cells, this, tpCells]
    · have : k % 2 = 1 := by omega
      simp [Value.cells, this, tpCells]
  · rw [List.getElem?_eq_none (by rw [Array.length_toList, size_madeCells]; omega), List.getElem?_eq_none (by rw [hl]; omega)]
set_option maxRecDepth 100000 in
theorem wl_make268 {ops : Array Oper} {Q : Exit → Act → World → Prop} {o : Oper} {rest : List Oper} {a : Act} {w : World} (hg : o.guard = none) (x y : Operand) (hop : o.op = Op.makeSlice 269 x y) (n : Nat) (hn : n ≤ 1000000) (hx : a.eval x = .int .i64 n) (hy : a.eval y = .int .i64 n)
    (h : ∀ w', w'.ownsRow w.heap.size 268 2 (.slice (some ⟨w.heap.size, 0, none⟩) n n) n ((List.replicate n ((ByteArray.empty, 0) : TP)).flatMap tpCells) → Kept [] w w' → w'.heap.size = w.heap.size + 1 → wpList Tryz.prog ops Q rest (a.put o.dst (.slice (some ⟨w.heap.size, 0, none⟩) n n)) w') : wpList Tryz.prog ops Q (o :: rest) a w := by
  obtain ⟨i, h1, h2, h3, h4⟩ := info_parts info268
  have hr := run_make (P := Tryz.prog) w 269 268 i _ Tryz.underlying269 h1 h2 .i64 .i64 n n (by omega) (by omega) (by rw [h4]; omega) (by omega)
  simp only [Int.toNat_natCast] at hr
  refine wpList_plain hg fun K hK => ?_
  unfold Oper.wp execOp
  simp only [hop, hx, hy, Sem.run_bind, hr, Result.andThen_ok, Sem.run_pure]
  rw [h3]
  refine hK _ _ (h _ ?_ ((Kept.refl _ _).alloc _) (by simp))
  refine ⟨by rw [flat_len tpCells 2 tp_len, List.length_replicate], .inr ⟨w.heap.size, n, madeCells (Value.agg #[.string ByteArray.empty, .int .i32 0]).cells (n * 2), rfl, Nat.le_refl _, heap_alloc_new _ _, Nat.le_refl _, by simp [maxLen]; omega, size_madeCells _ _, ?_⟩⟩
  rw [made_tp, List.take_of_length_le (by rw [flat_len tpCells 2 tp_len, List.length_replicate]; exact Nat.le_refl _)]
set_option maxRecDepth 100000 in
theorem sortPr (g n c b bm Pb N : Nat) (l : List TP) (m : List (TP × Value)) (w : World) (hb : w.cell? ⟨b, 0, none⟩ = some (.slice (some ⟨g, 0, none⟩) n c)) (hbg : b ≠ g) (hm : w.cell? ⟨bm, 0, none⟩ = some (.map (some Pb))) (hmg : bm ≠ g) (hM : MapIs tpEnc w Pb m) (hMg : Pb ≠ g)
    (h : w.ownsRow 0 268 2 (.slice (some ⟨g, 0, none⟩) n c) n (l.flatMap tpCells)) (hsz : ∀ p ∈ l, ∃ A c, mget m p = some (.slice A N c)) (hn : n ≤ 1000000) (hN : N ≤ 1000000000) :
    Calls Tryz.prog 171 #[.int .i64 n, .func (.func 229) #[] #[.pointer (some ⟨b, 0, none⟩)], .func (.func 230) #[] #[.pointer (some ⟨bm, 0, none⟩), .pointer (some ⟨b, 0, none⟩)]] w fun e w' => e = .returned (.tuple #[]) ∧ ∃ l' : List TP, l'.Perm l ∧ w'.ownsRow 0 268 2 (.slice (some ⟨g, 0, none⟩) n c) n (l'.flatMap tpCells) ∧ Kept [g] w w' := by
  have hln : l.length = n := by have := h.1; rw [flat_len tpCells 2 tp_len] at this; omega
  refine (zzSort_perm 229 230 #[.pointer (some ⟨b, 0, none⟩)] #[.pointer (some ⟨bm, 0, none⟩), .pointer (some ⟨b, 0, none⟩)] (fun (l1 : List TP) W => (∀ p ∈ l1, ∃ A c, mget m p = some (.slice A N c)) ∧ W.ownsRow 0 268 2 (.slice (some ⟨g, 0, none⟩) n c) n (l1.flatMap tpCells) ∧ Kept [g] w W) (fun _ _ => rfl) (fun _ _ => rfl) ?_ ?_ l n hln w ⟨hsz, h, Kept.refl _ _⟩ hn).mono ?_
  · rintro l1 W i j x y ⟨h1, h2, h3⟩ hx hy
    obtain ⟨ax, cx, gx⟩ := h1 x (List.mem_of_getElem? hx)
    obtain ⟨ay, cy, gy⟩ := h1 y (List.mem_of_getElem? hy)
    refine (less230_any g n c b bm Pb i j N cx cy ax ay l1 m x y W (h3.cell hb (by simpa using hbg)) (h3.cell hm (by simpa using hmg)) (hM.kept h3 (by simpa using hMg)) h2 hx hy gx gy hn hN).mono ?_
    rintro e w' ⟨r, he, hk⟩
    exact ⟨r, he, h1, own_kept0 h2 hk, h3.trans0 hk⟩
  · rintro l1 W i j x y ⟨h1, h2, h3⟩ hx hy _
    refine (swap229_any g n c b i j l1 x y W (h3.cell hb (by simpa using hbg)) hbg h2 hx hy hn).mono ?_
    rintro e w' ⟨he, hr, hk⟩
    exact ⟨he, fun p hp => h1 p (mem_swap hx hy p hp), hr, h3.trans hk (fun x hx => .inl hx)⟩
  · rintro e w' ⟨he, l', hp, h1, h2, h3⟩
    exact ⟨he, l', hp, h2, h3⟩
set_option maxRecDepth 100000 in
set_option maxHeartbeats 3200000 in
theorem sortPairs_any (Pb N : Nat) (pm : List (TP × Value)) (w : World) (hM : MapIs tpEnc w Pb pm) (hall : ∀ e ∈ pm, ∃ A c, e.2 = .slice A N c) (hN : N ≤ 1000000000) (hn : pm.length ≤ 1000000) :
    Calls Tryz.prog 209 #[.map (some Pb)] w fun e w' => ∃ (v : Value) (l' : List TP), e = .returned v ∧ l'.Perm (pm.map Prod.fst) ∧ w'.ownsRow w.heap.size 268 2 v l'.length (l'.flatMap tpCells) ∧ Kept [] w w' := by
  have HM := Lib.hid hM
  have HALL := Lib.hid hall
  have hblt := hM.lt
  obtain ⟨z, hz⟩ : ∃ z, w.heap.size = z := ⟨_, rfl⟩
  have HZ := Lib.hid hz
  rw [hz] at hblt
  clear hM hall hz
  go_enter Tryz.func209, Tryz.ntmps209
  go_wp2_with (first
    | (refine wl_len_map rfl _ 266 268 44 rfl Tryz.underlying266 Pb pm rfl (HM.out.alloc _) ?_)
    | (refine wl_make268 rfl _ _ rfl pm.length hn rfl rfl ?_
       intro w1 hrow1 hk1 hs1
       have HROW1 := Lib.hid hrow1
       have HK1 := Lib.hid hk1
       have HS1 := Lib.hid hs1
       have hc1 : (w1.alloc (Obj.cells #[Value.slice (some ⟨w.heap.size + 1, 0, none⟩) pm.length pm.length] 269)).cell? ⟨w.heap.size, 0, none⟩ = some (.map (some Pb)) := by
         have := ((Kept.refl [] w1).alloc (Obj.cells #[Value.slice (some ⟨w.heap.size + 1, 0, none⟩) pm.length pm.length] 269)).heap (hk1.heap (heap_alloc_new w (Obj.cells #[Value.map (some Pb)] 266)) (by simp)) (by simp)
         simp [World.cell?, this]
       clear hrow1 hk1 hs1)
    | (refine wl_range rfl _ 266 rfl 268 44 Tryz.underlying266 Pb pm rfl (((HM.out.alloc _).kept HK1.out (by simp)).alloc _) ?_; intro w2 hI hk2 hs2; have HI := Lib.hid hI; have HK2 := Lib.hid hk2; have HS2 := Lib.hid hs2; clear hI hk2 hs2))
  obtain ⟨n, hnn⟩ : ∃ n, pm.length = n := ⟨_, rfl⟩
  have hzA : (w.alloc (Obj.cells #[Value.map (some Pb)] 266)).heap.size = z + 1 := by rw [← HZ.out]; simp
  rw [hzA] at HROW1 HS1
  have hzB : (w1.alloc (Obj.cells #[Value.slice (some { block := z + 1, off := 0 }) pm.length pm.length] 269)).heap.size = z + 3 := by simp [HS1.out]
  clear hc1
  rw [HZ.out] at HI HK2 HS2 ⊢
  rw [hzB] at HI HS2 ⊢
  have hb0 : w2.heap[z]? = some (.cells #[Value.map (some Pb)] 266 (0, 0)) := HK2.out.heap (((Kept.refl [] w1).alloc _).heap (HK1.out.heap (by rw [← HZ.out, heap_alloc_new]) (by simp)) (by simp)) (by simp)
  have hb2 : w2.heap[z + 2]? = some (.cells #[Value.slice (some ⟨z + 1, 0, none⟩) pm.length pm.length] 269 (0, 0)) := HK2.out.heap (by rw [← HS1.out, heap_alloc_new]) (by simp)
  have HB0 := Lib.hid hb0
  have HB2 := Lib.hid hb2
  have HR2 : Hid (w2.ownsRow (z + 1) 268 2 (.slice (some ⟨z + 1, 0, none⟩) pm.length pm.length) pm.length ((List.replicate pm.length ((ByteArray.empty, 0) : TP)).flatMap tpCells)) := own_kept0 (own_kept0 HROW1.out ((Kept.refl _ _).alloc _)) HK2.out
  have HKW : Hid (Kept [] w w2) := ((((Kept.refl [] w).alloc _).trans0 HK1.out).alloc _).trans0 HK2.out
  rw [show w1.heap.size = z + 2 from HS1.out]
  rw [hnn] at HB2 HR2 hn ⊢
  have HN := Lib.hid hnn
  clear HROW1 HK1 HS1 HK2 HS2 hzA hzB hb0 hb2 hnn
  simp only [Act.put, List.setIfInBounds_toArray, List.set_cons_succ, List.set_cons_zero]
  go_loopg [4] n (fun k i wr => ∃ (done : List Nat) (l : List TP), k = n - done.length ∧ i = .int .i64 (done.length : Nat) ∧ IterIs tpEnc wr (z + 3) Pb pm done ∧ wr.heap[z]? = some (.cells #[Value.map (some Pb)] 266 (0, 0)) ∧ wr.heap[z + 2]? = some (.cells #[Value.slice (some ⟨z + 1, 0, none⟩) n n] 269 (0, 0)) ∧
    wr.ownsRow (z + 1) 268 2 (.slice (some ⟨z + 1, 0, none⟩) n n) n (l.flatMap tpCells) ∧ l.take done.length = walked (pm.map Prod.fst) done ∧ Kept [] w wr)
  case atStart => exact ⟨[], _, rfl, rfl, HI.out, HB0.out, HB2.out, HR2.out, rfl, HKW.out⟩
  case round =>
    obtain ⟨done, l, hk, rfl, hI, hb0, hb2, hrow, htake, hkr⟩ := hrel
    have HI1 := Lib.hid hI
    have HB01 := Lib.hid hb0
    have HB21 := Lib.hid hb2
    have HROW := Lib.hid hrow
    have HTK := Lib.hid htake
    have HKR := Lib.hid hkr
    have hdl := hI.left
    have hzr : z + 3 < wr.heap.size := hI.lt
    have hln : l.length = n := by have h1 := hrow.1; rw [flat_len tpCells 2 tp_len] at h1; omega
    rw [HN.out] at hdl
    clear hI hb0 hb2 hrow htake hkr
    obtain ⟨d, hd⟩ : ∃ d, done.length = d := ⟨_, rfl⟩
    rw [hd] at hk hdl HTK ⊢
    have HD := Lib.hid hd
    by_cases hlt : d < n
    · have hlt' : (d : Int) < (n : Int) := by omega
      have hwd : IntKind.i64.wrap ((d : Int) + 1) = (d : Int) + 1 := by rw [IntWalk.i64_left, IntWalk.wrap64_in _ (by omega)]
      clear hd
      go_wp2_with (first
        | (refine wl_next rfl _ rfl (z + 3) Pb pm done rfl HI1.out (fun e => absurd e (by have := HD.out; have := HN.out; omega)) ?_
           intro i p w3 hp hi hI2 hK2 hs2
           obtain ⟨x, u⟩ := p
           have HI2 := Lib.hid hI2
           have HK2 := Lib.hid hK2
           have HP := Lib.hid hp
           have HB22 := Lib.hid (hK2.heap HB21.out (by simp))
           have hc2 : (w3.alloc (.cells #[.string x.1, .int .i32 x.2] 268)).cell? ⟨z + 2, 0, none⟩ = some (.slice (some ⟨z + 1, 0, none⟩) n n) := by
             have := ((Kept.refl [] w3).alloc (.cells #[.string x.1, .int .i32 x.2] 268)).heap HB22.out (by simp)
             simp [World.cell?, this]
           have hrow3 := own_kept0 (hK2.own HROW.out (own_iter_ne HROW.out HI1.out)) ((Kept.refl [] w3).alloc (.cells #[.string x.1, .int .i32 x.2] 268))
           obtain ⟨w5, hr5, ho5, hk5⟩ := own_storeG (P := Tryz.prog) tp_len (by decide) (by kernel_rfl) x (tp_one x) hrow3 hlt
           have HR5 := Lib.hid hr5
           have HO5 := Lib.hid ho5
           have HK5 := Lib.hid hk5
           clear hI2 hK2 hp hi hs2 hrow3 hr5 ho5 hk5)
        | (refine wl_entry rfl _ rfl (z + 3) Pb pm done i _ rfl HI2.out HP.out ?_)
        | (refine wl_store3 rfl 268 _ _ rfl (z + 1) (d * 2) rfl rfl HR5.out ?_))
      have hz1 : z + 1 ≠ z + 3 := by omega
      have HK35 : Hid (Kept [z + 1] w3 w5) := ((Kept.refl [] w3).alloc _).mono (by simp) |>.trans HK5.out (fun x hx => .inl hx)
      go_roundg (n - (d + 1))
      case measure => omega
      case rel =>
        have hlen : (done ++ [i]).length = d + 1 := by rw [List.length_append, HD.out]; rfl
        have hkx : (pm.map Prod.fst)[i]? = some x := by rw [List.getElem?_map, HP.out]; rfl
        refine ⟨done ++ [i], l.set d x, by rw [hlen], by rw [hlen]; rfl, HI2.out.kept HK35.out (by simp; omega) (by simp), HK35.out.heap (HK2.out.heap HB01.out (by simp)) (by simp), HK35.out.heap HB22.out (by simp), HO5.out, ?_, (HKR.out.trans HK2.out (fun x hx => .inr (by have h1 := List.mem_singleton.1 hx; have h2 := HZ.out; omega))).trans HK35.out (fun x hx => .inr (by have h1 := List.mem_singleton.1 hx; have h2 := HZ.out; omega))⟩
        rw [hlen, walked_snoc hkx, ← HTK.out, take_one (List.getElem?_set_self (by omega)), List.take_set_of_le (Nat.le_refl _)]
    · have hde : d = n := by omega
      have hidn := HI1.out.2.1
      have hidl := HI1.out.2.2.1
      have hperm : (walked (pm.map Prod.fst) done).Perm (pm.map Prod.fst) := walked_perm hidn (fun i hi => by have := hidl i hi; simpa using this) (by have := HD.out; have := HN.out; simp; omega)
      rw [← HTK.out, hde, ← hln, List.take_length] at hperm
      have HPERM := Lib.hid hperm
      have hcz : wr.cell? ⟨z + 2, 0, none⟩ = some (.slice (some ⟨z + 1, 0, none⟩) n n) := by simp [World.cell?, HB21.out]
      have HSORT := Lib.hid (sortPr (z + 1) n n (z + 2) z Pb N l pm wr hcz (by omega) (by simp [World.cell?, HB01.out]) (by omega) HI1.out.map (by omega) (own_mono HROW.out (Nat.zero_le _)) (fun p hp => by
        have h1 := hperm.mem_iff.1 hp
        obtain ⟨⟨p', v⟩, he, rfl⟩ := List.mem_map.1 h1
        obtain ⟨A, c, hv⟩ := HALL.out _ he
        simp only at hv
        exact ⟨A, c, by rw [← hv]; exact mget_of_mem HI1.out.map.nodup he⟩) hn hN)
      have hmf : ∀ (fn : Fn) (first cap : Array Value) (w : World), (Instr.makeFunc fn first cap).run Tryz.prog w = .ok (.func fn first cap) w := fun _ _ _ _ => rfl
      clear hidn hidl hperm
      go_wp2_with (first
        | (refine wl_next rfl _ rfl (z + 3) Pb pm done rfl HI1.out (fun _ => ?_) (fun i p w2 hp hi hI2 hK2 hs2 => absurd hI2.left (by rw [List.length_append]; simp only [List.length_cons, List.length_nil]; have := HN.out; omega)))
        | ((with_reducible refine HSORT.out.mono ?_); rintro e w2 ⟨rfl, l1, hl1, hrow2, hk2⟩; have HL1 := Lib.hid hl1; have HROW2 := Lib.hid hrow2; have HK2 := Lib.hid hk2; have hcz2 : w2.cell? ⟨z + 2, 0, none⟩ = some (.slice (some ⟨z + 1, 0, none⟩) n n) := hk2.cell hcz (by simp); clear hl1 hrow2 hk2))
      go_ret
      have hl1 : l1.length = n := by rw [HL1.out.length_eq, hln]
      refine ⟨_, l1, rfl, HL1.out.trans HPERM.out, ?_, HKR.out.trans HK2.out (fun x hx => .inr (by have h1 := List.mem_singleton.1 hx; have h2 := HZ.out; omega))⟩
      rw [hl1]
      have h1 := own_rebase HROW2.out (base' := z + 1) (fun g' hg' => by cases hg'; exact Nat.le_refl _)
      exact own_mono h1 (by have := HZ.out; omega)
end Go.Proofs.YtghgffhcdnmpnaaGreat
/-
  The sticky strategies' pairs in order, of a group that begins (196). Conditions: each pair has as many members that could have it; a million pairs at most.
-/
namespace Go.Proofs.YtghgffhcdnmpnaaGreat
open Go.RowKit Go.Sort
set_option maxRecDepth 100000 in
set_option maxHeartbeats 3200000 in
theorem sortPartitions_any (v0 v1 v4 : Value) (Pb N : Nat) (pm : List (TP × Value)) (w : World) (hM : MapIs tpEnc w Pb pm) (hall : ∀ e ∈ pm, ∃ A c, e.2 = .slice A N c) (hN : N ≤ 1000000000) (hn : pm.length ≤ 1000000) :
    Calls Tryz.prog 196 #[v0, v1, .bool true, .map (some Pb), v4] w fun e w' => ∃ (v : Value) (l' : List TP), e = .returned v ∧ l'.Perm (pm.map Prod.fst) ∧ w'.ownsRow w.heap.size 268 2 v l'.length (l'.flatMap tpCells) ∧ Kept [] w w' := by
  have hmh : ∀ (n : Int) (w : World), (Instr.makeMap 273 (some (.int .i64 n))).run Tryz.prog w = .ok (.map (some w.heap.size)) (w.alloc (.map #[] 0)) := fun n w => by
    simp [Instr.makeMap, asInt, asIntOf]
  have HM := Lib.hid hM
  have HSRT : Hid (∀ W, Kept [] w W → Calls Tryz.prog 209 #[.map (some Pb)] W fun e w' => ∃ (v : Value) (l' : List TP), e = .returned v ∧ l'.Perm (pm.map Prod.fst) ∧ w'.ownsRow W.heap.size 268 2 v l'.length (l'.flatMap tpCells) ∧ Kept [] W w') := fun W hW => sortPairs_any Pb N pm W (hM.kept hW (by simp)) hall hN hn
  have hMlt := hM.lt
  obtain ⟨z, hz⟩ : ∃ z, w.heap.size = z := ⟨_, rfl⟩
  rw [hz] at hMlt
  have HZ := Lib.hid hz
  clear hM hz hall
  go_enter Tryz.func196, Tryz.ntmps196
  go_wp2_with (first
    | (refine wl_len_map rfl _ 266 268 44 rfl Tryz.underlying266 Pb pm rfl HM.out ?_)
    | (refine wl_range rfl _ 266 rfl 268 44 Tryz.underlying266 Pb pm rfl (HM.out.alloc _) ?_; intro w1 hI hk1 hs1; have HI := Lib.hid hI; have HK1 := Lib.hid hk1; have HS1 := Lib.hid hs1; clear hI hk1 hs1))
  simp only [Act.put, List.setIfInBounds_toArray, List.set_cons_succ, List.set_cons_zero]
  have hD : (w.alloc (Obj.map #[] 0)).heap.size = z + 1 := by rw [← HZ.out]; simp
  have hDM : MapIs tpEnc w1 z [] := by
    have h := MapIs.new tpEnc w
    rw [HZ.out] at h
    exact h.kept HK1.out (by simp)
  have HDM := Lib.hid hDM
  have HI0 : Hid (IterIs tpEnc w1 (z + 1) Pb pm []) := by rw [← hD]; exact HI.out
  have HKW : Hid (Kept [] w w1) := ((Kept.refl [] w).alloc _).trans0 HK1.out
  rw [hD, HZ.out]
  clear HI HK1 HS1 hD hDM
  go_loopg [12] pm.length (fun k _ wr => ∃ (done : List Nat) (d : List (TP × Value)), k = pm.length - done.length ∧ IterIs tpEnc wr (z + 1) Pb pm done ∧ MapIs tpEnc wr z d ∧ Kept [] w wr)
  case atStart => exact ⟨[], [], rfl, HI0.out, HDM.out, HKW.out⟩
  case round =>
    obtain ⟨done, d, hk, hI, hd, hkr⟩ := hrel
    have HI1 := Lib.hid hI
    have HD := Lib.hid hd
    have HKR := Lib.hid hkr
    have hdl := hI.left
    have hz1 : z + 1 < wr.heap.size := hI.lt
    clear hI hd hkr
    by_cases hlt : done.length < pm.length
    · go_wp2_with (first
        | (refine wl_next rfl _ rfl (z + 1) Pb pm done rfl HI1.out (fun e => absurd e (by omega)) ?_
           intro i p w2 hp hi hI2 hK2 hs2
           obtain ⟨t, u⟩ := p
           have HI2 := Lib.hid hI2
           have HK2 := Lib.hid hK2
           have HP := Lib.hid hp
           have HD2 := Lib.hid (HD.out.kept hK2 (by simp))
           clear hI2 hK2 hp hi hs2)
        | (refine wl_entry rfl _ rfl (z + 1) Pb pm done i _ rfl HI2.out HP.out ?_)
        | (refine wl_update rfl _ _ _ 273 rfl 4 Tryz.underlying273 tp_keys z d rfl (HD2.out.alloc _) t rfl (.bool true) rfl ?_
           intro w4 hM4 hk4 hs4
           have HD4 := Lib.hid hM4
           have HK4 := Lib.hid hk4
           clear hM4 hk4))
      have HI4 := Lib.hid ((HI2.out.kept ((Kept.refl [] w2).alloc _) (by simp) (by simp)).kept HK4.out (by simp; omega) (by simp))
      simp only [Act.put]
      go_roundg (pm.length - (done ++ [i]).length)
      case measure =>
        rw [List.length_append]
        simp only [List.length_cons, List.length_nil]
        omega
      case rel => exact ⟨done ++ [i], _, rfl, HI4.out, HD4.out, ((HKR.out.trans HK2.out (fun x hx => .inr (by have h1 := List.mem_singleton.1 hx; have h2 := HZ.out; omega))).alloc _).trans HK4.out (fun x hx => .inr (by have h1 := List.mem_singleton.1 hx; have h2 := HZ.out; omega))⟩
    · have hde : done.length = pm.length := by omega
      go_wp2_with (first
        | (refine wl_next rfl _ rfl (z + 1) Pb pm done rfl HI1.out (fun _ => ?_) (fun i p w2 hp hi hI2 hK2 hs2 => absurd hI2.left (by rw [List.length_append]; simp only [List.length_cons, List.length_nil]; omega)))
        | (refine wl_make268 rfl _ _ rfl 0 (by omega) rfl rfl ?_; intro w3 _ hk3 _; have HK3 := Lib.hid hk3; clear hk3)
        | ((with_reducible refine (HSRT.out _ (HKR.out.trans0 HK3.out)).mono ?_); rintro e w4 ⟨v, l', rfl, hp, hr, hk⟩; have HP4 := Lib.hid hp; have HR4 := Lib.hid hr; have HK4 := Lib.hid hk; clear hp hr hk))
      go_ret
      exact ⟨v, l', rfl, HP4.out, own_mono HR4.out (HKR.out.trans0 HK3.out).size, (HKR.out.trans0 HK3.out).trans0 HK4.out⟩
end Go.Proofs.YtghgffhcdnmpnaaGreat
/-
  What members tell of what they have, where they tell nothing (226, 225, 222, 200, 278, 273). Conditions: no data, nothing owned.
-/
namespace Go.Proofs.YtghgffhcdnmpnaaGreat
open Go.RowKit Go.Sort
set_option maxRecDepth 100000 in
theorem decode_any (v : Value) (w : World) : Calls Tryz.prog 226 #[.slice none 0 0, v] w fun e w' => e = .returned .nilIface ∧ Kept [] w w' := by
  have hbe : ∀ w : World, (binOp BinOp.eql 22 (.slice none 0 0) (.slice none 0 0)).run Tryz.prog w = .ok (.bool true) w := fun w => by
    have h : (Op.equalIn Op.maxDepth 22 (.slice none 0 0) (.slice none 0 0)).run Tryz.prog w = .ok true w := run_equalIn_slice_nil (P := Tryz.prog) w 9999 22 _ none 0 0 Tryz.underlying22
    simp [binOp, Op.equal, h, Result.andThen]
  go_enter Tryz.func226, Tryz.ntmps226
  go_wp2
  go_ret
  exact ⟨rfl, Kept.refl _ _⟩
set_option maxRecDepth 100000 in
theorem deserialize_any (w : World) : Calls Tryz.prog 225 #[.slice none 0 0] w fun e w' => ∃ b, e = .returned (.tuple #[.iface 342 (.pointer (some ⟨b, 0, none⟩)), .nilIface]) ∧ w'.cell? ⟨b, 2, none⟩ = some (.slice none 0 0) ∧ Kept [] w w' := by
  have HD : Hid (∀ v W, Calls Tryz.prog 226 #[.slice none 0 0, v] W fun e w' => e = .returned .nilIface ∧ Kept [] W w') := decode_any
  go_enter Tryz.func225, Tryz.ntmps225
  go_wp2_with ((with_reducible refine (HD.out _ _).mono ?_); rintro e w1 ⟨rfl, hk⟩; have HK := Lib.hid hk; clear hk)
  go_ret2
  refine ⟨_, rfl, HK.out.cell ?_ (by simp), ((Kept.refl _ _).alloc _).trans0 HK.out⟩
  rw [cell_alloc_at]
  rfl
set_option maxRecDepth 100000 in
theorem owned_any (w : World) : Calls Tryz.prog 222 #[.slice none 0 0] w fun e w' => ∃ b, e = .returned (.slice (some ⟨b, 0, none⟩) 0 0) ∧ Kept [] w w' := by
  go_enter Tryz.func222, Tryz.ntmps222
  go_wp2_with (refine wl_make268 rfl _ _ rfl 0 (by omega) rfl rfl ?_; intro w3 _ hk3 _; have HK3 := Lib.hid hk3; clear hk3)
  refine wp_loop_once ?_
  go_wp2
  go_ret
  exact ⟨_, rfl, HK3.out⟩
set_option maxRecDepth 100000 in
theorem parts278_any (b : Nat) (A : Option Addr) (w : World) (h : w.cell? ⟨b, 2, none⟩ = some (.slice A 0 0)) : Calls Tryz.prog 278 #[.pointer (some ⟨b, 0, none⟩)] w fun e w' => e = .returned (.slice A 0 0) ∧ Kept [] w w' := by
  go_enter Tryz.func278, Tryz.ntmps278
  go_wp2
  go_ret
  exact ⟨rfl, Kept.refl _ _⟩
set_option maxRecDepth 100000 in
theorem parts273_any (b : Nat) (A : Option Addr) (w : World) (h : w.cell? ⟨b, 1, none⟩ = some (.slice A 0 0)) : Calls Tryz.prog 273 #[.pointer (some ⟨b, 0, none⟩)] w fun e w' => e = .returned (.slice A 0 0) ∧ Kept [] w w' := by
  go_enter Tryz.func273, Tryz.ntmps273
  go_wp2
  go_ret
  exact ⟨rfl, Kept.refl _ _⟩
/-- What a member's metadata are, who has no data and owns nothing. -/
abbrev metaV (ver : Int) (tv : Value) (gen : Int) (rp : Option Addr) : Value := .agg #[.int .i16 ver, tv, .slice none 0 0, .slice none 0 0, .int .i32 gen, .pointer rp]
set_option maxRecDepth 100000 in
theorem memberData0_any (ver gen : Int) (A : Option Addr) (n c : Nat) (rp : Option Addr) (w : World) :
    Calls Tryz.prog 200 #[metaV ver (.slice A n c) gen rp, .bool false] w fun e w' => ∃ b, e = .returned (.tuple #[.iface 342 (.pointer (some ⟨b, 0, none⟩)), .nilIface]) ∧ w'.cell? ⟨b, 2, none⟩ = some (.slice none 0 0) ∧ Kept [] w w' := by
  have HD : Hid (∀ W, Calls Tryz.prog 225 #[.slice none 0 0] W fun e w' => ∃ b, e = .returned (.tuple #[.iface 342 (.pointer (some ⟨b, 0, none⟩)), .nilIface]) ∧ w'.cell? ⟨b, 2, none⟩ = some (.slice none 0 0) ∧ Kept [] W w') := deserialize_any
  go_enter Tryz.func200, Tryz.ntmps200
  go_wp2_with ((with_reducible refine (HD.out _).mono ?_); rintro e w1 ⟨b, rfl, hc, hk⟩; have HK := Lib.hid hk; have HC := Lib.hid hc; clear hk hc)
  go_ret2
  exact ⟨_, rfl, HC.out, ((Kept.refl _ _).alloc _).trans0 HK.out⟩
set_option maxRecDepth 100000 in
theorem memberData1_any (ver gen : Int) (A : Option Addr) (n c : Nat) (rp : Option Addr) (w : World) :
    Calls Tryz.prog 200 #[metaV ver (.slice A n c) gen rp, .bool true] w fun e w' => ∃ b A', e = .returned (.tuple #[.iface 323 (.pointer (some ⟨b, 0, none⟩)), .nilIface]) ∧ w'.cell? ⟨b, 1, none⟩ = some (.slice A' 0 0) ∧ Kept [] w w' := by
  have HD : Hid (∀ W, Calls Tryz.prog 222 #[.slice none 0 0] W fun e w' => ∃ b, e = .returned (.slice (some ⟨b, 0, none⟩) 0 0) ∧ Kept [] W w') := owned_any
  obtain ⟨z, hz⟩ : ∃ z, w.heap.size = z := ⟨_, rfl⟩
  have HZ := Lib.hid hz
  clear hz
  by_cases hv : 2 ≤ ver
  all_goals go_enter Tryz.func200, Tryz.ntmps200
  all_goals go_wp2_with
    ((with_reducible refine (HD.out _).mono ?_)
     rintro e w1 ⟨b, rfl, hk⟩
     have HK := Lib.hid hk
     have hcell : ∀ o v, #[Value.int IntKind.i16 ver, Value.slice A n c, Value.slice none 0 0, Value.slice none 0 0, Value.int IntKind.i32 gen, Value.pointer rp][o]? = some v → (w1.alloc (Obj.cells #[Value.int IntKind.i32 (-1), Value.slice (some ⟨b, 0, none⟩) 0 0] 325)).cell? ⟨w.heap.size, o, none⟩ = some v := fun o v hv =>
       ((Kept.refl [] w1).alloc _).cell (hk.cell (by rw [cell_alloc_at]; exact hv) (by simp)) (by simp)
     have hc0 := hcell 0 _ rfl
     have hc2 := hcell 2 _ rfl
     have hc4 := hcell 4 _ rfl
     clear hk hcell)
  all_goals go_ret2
  all_goals refine ⟨_, some ⟨b, 0, none⟩, rfl, ?_, (((Kept.refl _ _).alloc _).trans0 HK.out).alloc _⟩
  all_goals rw [cell_alloc_at]
  all_goals rfl
end Go.Proofs.YtghgffhcdnmpnaaGreat
