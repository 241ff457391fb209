/-
  Round robin's closures: they exchange and compare pairs in a row of one's own. Conditions: partitions below a hundred; places inside the row.
-/
import Derived.Test.YtghgffhcdnmpnaaGreatZK1
import Derived.Test.YtghgffhcdnmpnaaGreatZC15
import Derived.Test.YtghgffhcdnmpnaaGreatZC9
namespace Go.Proofs.YtghgffhcdnmpnaaGreat
open Go.RowKit Go.Sort
section
variable {α : Type} {f : α → List Value} {s : Nat} {e : TypeId}
/-- A struct is laid into a row of structs. -/
theorem own_storeG {P : Program} (hf : ∀ x, (f x).length = s) (hs0 : 0 < s) (hi : (P.info? e).map (·.size) = some s) {w : World} {base g n cap j : Nat} {l : List α} (y : α) (hy : ∀ v ∈ f y, v.oneCell' = true) (h : w.ownsRow base e s (.slice (some ⟨g, 0, none⟩) n cap) n (l.flatMap f)) (hj : j < n) :
    ∃ w', (storeVar e ⟨g, j * s, none⟩ (.agg (f y).toArray)).run P w = .ok () w' ∧ w'.ownsRow base e s (.slice (some ⟨g, 0, none⟩) n cap) n ((l.set j y).flatMap f) ∧ Kept [g] w w' := by
  have hln : l.length = n := by have := h.1; rw [flat_len f s hf] at this; exact Nat.eq_of_mul_eq_mul_right hs0 this
  have hjs : j * s + s ≤ n * s := by rw [← Nat.succ_mul]; exact Nat.mul_le_mul_right s hj
  rcases h.2 with ⟨e0, _⟩ | ⟨g', cap', cur, e0, hb, hg, hn, hm, hs, ht⟩
  · cases e0
  · injection e0 with e1 _ e3
    injection e1 with e1
    injection e1 with e1
    subst e1; subst e3
    have hcs : n * s ≤ cap * s := Nat.mul_le_mul_right s hn
    have hfit : j * s + 0 + (f y).length ≤ cur.size := by rw [hs, hf]; omega
    have hst := run_storeCells_at (P := P) g (j * s) e (f y) 0 cur w hg hfit hy
    have hc3 : (f y).toArray.size = s := by rw [List.size_toArray, hf]
    obtain ⟨new, hnew⟩ : ∃ new, (cur.toList.take (j * s + 0) ++ (f y ++ cur.toList.drop (j * s + 0 + (f y).length))).toArray = new := ⟨_, rfl⟩
    rw [hnew] at hst
    refine ⟨w.setRow g new, ?_, ⟨?_, .inr ⟨g, cap, new, rfl, hb, setRow_heap w g cur new e _ hg, hn, hm, ?_, ?_⟩⟩, (Kept.refl _ _).setRow (.inl (by simp)) _⟩
    · cases hq : P.info? e with
      | none => simp [hq] at hi
      | some i =>
        have hs3 : i.size = s := by simpa [hq] using hi
        simp [storeVar, Sem.run_bind, sizeOf, typeInfo, hq, hs3, Value.cells, hst, hf]
    · rw [flat_len f s hf, List.length_set, hln]
    · rw [← hnew]
      simp only [List.size_toArray, List.length_append, List.length_take, List.length_drop, Array.length_toList, hf]
      omega
    · have hfl := flat_set f s hf y l j (by omega)
      rw [hfl]
      have hl3 : cur.toList.take (n * s) = l.flatMap f := ht
      rw [← hl3, ← hnew]
      apply List.ext_getElem?
      intro k
      simp only [List.getElem?_append, List.getElem?_take, List.getElem?_drop, List.length_take, Array.length_toList, hf]
      have e1 : min (j * s + 0) cur.size = j * s := by omega
      have e2 : min (j * s) (min (n * s) cur.size) = j * s := by omega
      rw [e1, e2]
      by_cases hk : k < n * s
      · by_cases hk1 : k < j * s
        · simp [hk, hk1]
        · by_cases hk2 : k - j * s < s
          · simp [hk, hk1, hk2]
          · have a1 : j * s + s + (k - j * s - s) = k := by omega
            simp [hk, hk1, hk2, a1]
      · have hk1 : ¬ k < j * s := by omega
        have hk2 : ¬ k - j * s < s := by omega
        have a1 : j * s + s + (k - j * s - s) = k := by omega
        simp [hk, hk1, hk2, a1]
theorem own_cellsG (hf : ∀ x, (f x).length = s) (hs0 : 0 < s) {w : World} {base g n cap : Nat} {l : List α} (h : w.ownsRow base e s (.slice (some ⟨g, 0, none⟩) n cap) n (l.flatMap f)) {j : Nat} {x : α} (hj : l[j]? = some x) : ∀ i v, (f x)[i]? = some v → w.cell? ⟨g, j * s + i, none⟩ = some v := by
  intro i v hv
  have hi : i < s := by have := (List.getElem?_eq_some_iff.1 hv).1; rwa [hf] at this
  have h3 := flat_get f s hf hs0 l j i hi
  rw [hj] at h3
  have hf' : (l.flatMap f)[j * s + i]? = some v := h3.trans hv
  have := h.cells (g := g) rfl (j * s + i) v hf'
  have hadd : (⟨g, 0, none⟩ : Addr).add (j * s + i) = ⟨g, j * s + i, none⟩ := by unfold Addr.add; split <;> simp_all
  rwa [hadd] at this
end
def tpCells (p : ByteArray × Int) : List Value := [.string p.1, .int .i32 p.2]
def mtCells (p : ByteArray × Nat) : List Value := [.map (some p.2), .string p.1]
theorem tp_len (p : ByteArray × Int) : (tpCells p).length = 2 := rfl
theorem mt_len (p : ByteArray × Nat) : (mtCells p).length = 2 := rfl
theorem tp_one (p : ByteArray × Int) : ∀ v ∈ tpCells p, v.oneCell' = true := by
  intro v hv
  simp only [tpCells, List.mem_cons, List.not_mem_nil, or_false] at hv
  rcases hv with rfl | rfl <;> rfl
theorem mt_one (p : ByteArray × Nat) : ∀ v ∈ mtCells p, v.oneCell' = true := by
  intro v hv
  simp only [mtCells, List.mem_cons, List.not_mem_nil, or_false] at hv
  rcases hv with rfl | rfl <;> rfl
def swE (g : Nat) (i : Nat) (a b : World) : Prop := Kept (match i with | 13 => [g] | _ => []) a b
theorem swE_R {g i : Nat} {a b c : World} (h : Kept [g] a b) (k : swE g i b c) : Kept [g] a c := by
  unfold swE at k
  split at k
  · exact h.trans k (fun x hx => .inl hx)
  · exact h.trans0 k

theorem digits_len : ∀ k : Nat, k < 100 → (Lib.decDigits k).length ≤ 2 := by decide +kernel
def sw172F (g n c i j : Nat) (x y : ByteArray × Int) (l : List (ByteArray × Int)) (ix : Nat) (v : Value) (W : World) : Prop :=
  match ix with
  | 0 => v = .slice (some ⟨g, 0, none⟩) n c
  | 1 => v = .int .i64 i
  | 2 => v = .slice (some ⟨g, 0, none⟩) n c
  | 3 => v = .int .i64 j
  | 4 => v = .slice (some ⟨g, 0, none⟩) n c
  | 5 => v = .int .i64 j
  | 6 => v = .pointer (some ⟨g, j * 2, none⟩)
  | 7 => v = .agg (tpCells y).toArray
  | 8 => v = .slice (some ⟨g, 0, none⟩) n c
  | 9 => v = .int .i64 i
  | 10 => v = .pointer (some ⟨g, i * 2, none⟩)
  | 11 => v = .agg (tpCells x).toArray
  | 12 => v = .pointer (some ⟨g, i * 2, none⟩)
  | 13 => W.ownsRow 0 237 2 (.slice (some ⟨g, 0, none⟩) n c) n ((l.set i y).flatMap tpCells)
  | _ => True
theorem sw172F_stable {g n c i j x y l} : ∀ i' jx v w w', i' ≠ jx → sw172F g n c i j x y l jx v w → swE g i' w w' → sw172F g n c i j x y l jx v w' := by
  intro i' jx v w w' hij h hk
  unfold sw172F at h ⊢
  split at h <;> (first | (exact h) | skip)
  unfold swE at hk
  split at hk
  · exact absurd rfl hij
  · exact own_kept0 h hk
def sw172Pre (g n c : Nat) (l : List (ByteArray × Int)) (i : Nat) (w : World) : Prop := (i = 7 ∨ i = 11 ∨ i = 13) → w.ownsRow 0 237 2 (.slice (some ⟨g, 0, none⟩) n c) n (l.flatMap tpCells)
set_option maxRecDepth 100000 in
set_option maxHeartbeats 1600000 in
theorem swap172_any (g n c b i j : Nat) (l : List (ByteArray × Int)) (x y : ByteArray × Int) (w : World) (hb : w.cell? ⟨b, 0, none⟩ = some (.slice (some ⟨g, 0, none⟩) n c)) (hbg : b ≠ g) (h : w.ownsRow 0 237 2 (.slice (some ⟨g, 0, none⟩) n c) n (l.flatMap tpCells)) (hx : l[i]? = some x) (hy : l[j]? = some y) (_hn : n ≤ 1000000) :
    Calls Tryz.prog 172 #[.int .i64 i, .int .i64 j, .pointer (some ⟨b, 0, none⟩)] w fun e w' => e = .returned (.tuple #[]) ∧ w'.ownsRow 0 237 2 (.slice (some ⟨g, 0, none⟩) n c) n (((l.set i y).set j x).flatMap tpCells) ∧ Kept [g] w w' := by
  have hln : l.length = n := by have := h.1; rw [flat_len tpCells 2 tp_len] at this; omega
  have hi : i < n := by rw [← hln]; exact (List.getElem?_eq_some_iff.1 hx).1
  have hj : j < n := by rw [← hln]; exact (List.getElem?_eq_some_iff.1 hy).1
  have HX := Lib.hid hx
  have HY := Lib.hid hy
  have HB := Lib.hid hb
  have HO := Lib.hid h
  have HLN := Lib.hid hln
  clear hx hy hb h hln
  go_enter Tryz.func172, Tryz.ntmps172
  go_wp2
  refine wp_region_gd' 14 (Kept [g]) (swE g) (sw172Pre g n c l) (sw172F g n c i j x y l) mixed (by kernel_rfl) ((Kept.refl _ _).drew) (fun i _ _ _ h k => swE_R h k) (fun i _ _ => own_kept0 HO.out ((Kept.refl _ _).drew)) sw172F_stable (fun i' jx w w' hij hwt h hk hj => ?_) ?_ ?_
  · unfold swE at hk
    split at hk
    · rcases hj with rfl | rfl | rfl
      · exact Bool.noConfusion (show true = false from hwt)
      · exact Bool.noConfusion (show true = false from hwt)
      · exact absurd rfl hij
    · exact own_kept0 (h hj) hk
  · refine ⟨?_, ?_, ?_, ?_, ?_, ?_, ?_, ?_, ?_, ?_, ?_, ?_, ?_, ?_, trivial⟩
    all_goals go_light
    all_goals intro a W hR hpre hs hd
    all_goals have p0 : a.tmps[0]? = some (.int .i64 i) := hs.2.2 0 (by decide)
    all_goals have p1 : a.tmps[1]? = some (.int .i64 j) := hs.2.2 1 (by decide)
    all_goals have p2 : a.tmps[2]? = some (.pointer (some ⟨b, 0, none⟩)) := hs.2.2 2 (by decide)
    all_goals have hRr : Kept [] W W := Kept.refl [] W
    all_goals have hcb : W.cell? ⟨b, 0, none⟩ = some (.slice (some ⟨g, 0, none⟩) n c) := hR.cell HB.out (by simpa using hbg)
    · refine ⟨fun _ => ?_, fun hw => Bool.noConfusion (show true = false from hw)⟩
      refine ow_value (w' := W) (v := .slice (some ⟨g, 0, none⟩) n c) ?_ (.mk hRr rfl rfl)
      simp [go_sem, p2, hcb]
    · refine ⟨fun _ => ?_, fun hw => Bool.noConfusion (show true = false from hw)⟩
      refine ow_value (w' := W) (v := .int .i64 i) ?_ (.mk hRr rfl rfl)
      simp [go_sem, p0]
    · refine ⟨fun _ => ?_, fun hw => Bool.noConfusion (show true = false from hw)⟩
      refine ow_value (w' := W) (v := .slice (some ⟨g, 0, none⟩) n c) ?_ (.mk hRr rfl rfl)
      simp [go_sem, p2, hcb]
    · refine ⟨fun _ => ?_, fun hw => Bool.noConfusion (show true = false from hw)⟩
      refine ow_value (w' := W) (v := .int .i64 j) ?_ (.mk hRr rfl rfl)
      simp [go_sem, p1]
    · refine ⟨fun _ => ?_, fun hw => Bool.noConfusion (show true = false from hw)⟩
      refine ow_value (w' := W) (v := .slice (some ⟨g, 0, none⟩) n c) ?_ (.mk hRr rfl rfl)
      simp [go_sem, p2, hcb]
    · refine ⟨fun _ => ?_, fun hw => Bool.noConfusion (show true = false from hw)⟩
      refine ow_value (w' := W) (v := .int .i64 j) ?_ (.mk hRr rfl rfl)
      simp [go_sem, p1]
    · have q4 : _ = _ := hd.1 rfl
      have q5 : _ = _ := hd.2.1 rfl
      refine ⟨fun _ => ?_, fun hw => Bool.noConfusion (show true = false from hw)⟩
      refine ow_value (w' := W) (v := .pointer (some ⟨g, j * 2, none⟩)) ?_ (.mk hRr rfl rfl)
      simp [go_sem, q4, q5, show ¬ n ≤ j by omega]
    · have q6 : _ = _ := hd.1 rfl
      refine ⟨fun _ => ?_, fun hw => Bool.noConfusion (show true = false from hw)⟩
      refine ow_load_struct 237 _ rfl Tryz.underlying237 rfl rfl g (j * 2) (by simp [go_sem, q6]) (tpCells y) rfl (own_cellsG tp_len (by decide) (hpre (by simp)) HY.out) ?_
      exact .mk hRr rfl rfl
    · refine ⟨fun _ => ?_, fun hw => Bool.noConfusion (show true = false from hw)⟩
      refine ow_value (w' := W) (v := .slice (some ⟨g, 0, none⟩) n c) ?_ (.mk hRr rfl rfl)
      simp [go_sem, p2, hcb]
    · refine ⟨fun _ => ?_, fun hw => Bool.noConfusion (show true = false from hw)⟩
      refine ow_value (w' := W) (v := .int .i64 i) ?_ (.mk hRr rfl rfl)
      simp [go_sem, p0]
    · have q8 : _ = _ := hd.1 rfl
      have q9 : _ = _ := hd.2.1 rfl
      refine ⟨fun _ => ?_, fun hw => Bool.noConfusion (show true = false from hw)⟩
      refine ow_value (w' := W) (v := .pointer (some ⟨g, i * 2, none⟩)) ?_ (.mk hRr rfl rfl)
      simp [go_sem, q8, q9, show ¬ n ≤ i by omega]
    · have q10 : _ = _ := hd.1 rfl
      refine ⟨fun _ => ?_, fun hw => Bool.noConfusion (show true = false from hw)⟩
      refine ow_load_struct 237 _ rfl Tryz.underlying237 rfl rfl g (i * 2) (by simp [go_sem, q10]) (tpCells x) rfl (own_cellsG tp_len (by decide) (hpre (by simp)) HX.out) ?_
      exact .mk hRr rfl rfl
    · have q0 : _ = _ := hd.1 rfl
      have q1 : _ = _ := hd.2.1 rfl
      refine ⟨fun _ => ?_, fun hw => Bool.noConfusion (show true = false from hw)⟩
      refine ow_value (w' := W) (v := .pointer (some ⟨g, i * 2, none⟩)) ?_ (.mk hRr rfl rfl)
      simp [go_sem, q0, q1, show ¬ n ≤ i by omega]
    · have q12 : _ = _ := hd.1 rfl
      have q7 : _ = _ := hd.2.1 rfl
      refine ⟨fun _ => ?_, fun hw => Bool.noConfusion (show true = false from hw)⟩
      obtain ⟨w', h1, h2, h3⟩ := own_storeG (P := Tryz.prog) tp_len (by decide) (by kernel_rfl) y (tp_one y) (hpre (by simp)) (show i < n by omega)
      refine ow_store3 237 _ _ rfl g (i * 2) (by simp [go_sem, q12]) (by simp [go_sem, q7]) h1 ?_
      exact ⟨undef, rfl, h3, h2, fun _ => h2⟩
  · intro f W hR hf
    obtain ⟨f0, f1, f2, f3, f4, f5, f6, f7, f8, f9, f10, f11, f12, f13, -⟩ := hf
    change f 5 = _ at f0
    change f 6 = _ at f1
    change f 7 = _ at f2
    change f 8 = _ at f3
    change f 9 = _ at f4
    change f 10 = _ at f5
    change f 11 = _ at f6
    change f 12 = _ at f7
    change f 13 = _ at f8
    change f 14 = _ at f9
    change f 15 = _ at f10
    change f 16 = _ at f11
    change f 17 = _ at f12
    change W.ownsRow 0 237 2 (.slice (some ⟨g, 0, none⟩) n c) n ((l.set i y).flatMap tpCells) at f13
    simp only [headDsts, List.take_succ_cons, List.take_zero, List.filterMap_cons, List.filterMap_nil, setAll, f0, f1, f2, f3, f4, f5, f6, f7, f8, f9, f10, f11, f12, List.setIfInBounds_toArray, List.set_cons_succ, List.set_cons_zero, List.drop_succ_cons, List.drop_zero]
    clear f0 f1 f2 f3 f4 f5 f6 f7 f8 f9 f10 f11 f12 f
    obtain ⟨w3, hw1, hw2, hw3⟩ := own_storeG (P := Tryz.prog) tp_len (by decide) (by kernel_rfl) x (tp_one x) f13 (show j < n by omega)
    have HW1 := Lib.hid hw1
    have HW2 := Lib.hid hw2
    have HW3 := Lib.hid (hR.trans hw3 (fun x hx => .inl hx))
    clear hw1 hw2 hw3 hR f13
    go_wp2_with (refine wl_store3 rfl 237 _ _ rfl g (j * 2) rfl rfl HW1.out ?_)
    exact bodyPost_end (results_none rfl _ _ _) rfl ⟨rfl, HW2.out, HW3.out⟩
def sw175F (g n c i j : Nat) (x y : ByteArray × Nat) (l : List (ByteArray × Nat)) (ix : Nat) (v : Value) (W : World) : Prop :=
  match ix with
  | 0 => v = .slice (some ⟨g, 0, none⟩) n c
  | 1 => v = .int .i64 i
  | 2 => v = .slice (some ⟨g, 0, none⟩) n c
  | 3 => v = .int .i64 j
  | 4 => v = .slice (some ⟨g, 0, none⟩) n c
  | 5 => v = .int .i64 j
  | 6 => v = .pointer (some ⟨g, j * 2, none⟩)
  | 7 => v = .agg (mtCells y).toArray
  | 8 => v = .slice (some ⟨g, 0, none⟩) n c
  | 9 => v = .int .i64 i
  | 10 => v = .pointer (some ⟨g, i * 2, none⟩)
  | 11 => v = .agg (mtCells x).toArray
  | 12 => v = .pointer (some ⟨g, i * 2, none⟩)
  | 13 => W.ownsRow 0 242 2 (.slice (some ⟨g, 0, none⟩) n c) n ((l.set i y).flatMap mtCells)
  | _ => True
theorem sw175F_stable {g n c i j x y l} : ∀ i' jx v w w', i' ≠ jx → sw175F g n c i j x y l jx v w → swE g i' w w' → sw175F g n c i j x y l jx v w' := by
  intro i' jx v w w' hij h hk
  unfold sw175F at h ⊢
  split at h <;> (first | (exact h) | skip)
  unfold swE at hk
  split at hk
  · exact absurd rfl hij
  · exact own_kept0 h hk
def sw175Pre (g n c : Nat) (l : List (ByteArray × Nat)) (i : Nat) (w : World) : Prop := (i = 7 ∨ i = 11 ∨ i = 13) → w.ownsRow 0 242 2 (.slice (some ⟨g, 0, none⟩) n c) n (l.flatMap mtCells)
set_option maxRecDepth 100000 in
set_option maxHeartbeats 1600000 in
theorem swap175_any (g n c b i j : Nat) (l : List (ByteArray × Nat)) (x y : ByteArray × Nat) (w : World) (hb : w.cell? ⟨b, 0, none⟩ = some (.slice (some ⟨g, 0, none⟩) n c)) (hbg : b ≠ g) (h : w.ownsRow 0 242 2 (.slice (some ⟨g, 0, none⟩) n c) n (l.flatMap mtCells)) (hx : l[i]? = some x) (hy : l[j]? = some y) (_hn : n ≤ 1000000) :
    Calls Tryz.prog 175 #[.int .i64 i, .int .i64 j, .pointer (some ⟨b, 0, none⟩)] w fun e w' => e = .returned (.tuple #[]) ∧ w'.ownsRow 0 242 2 (.slice (some ⟨g, 0, none⟩) n c) n (((l.set i y).set j x).flatMap mtCells) ∧ Kept [g] w w' := by
  have hln : l.length = n := by have := h.1; rw [flat_len mtCells 2 mt_len] at this; omega
  have hi : i < n := by rw [← hln]; exact (List.getElem?_eq_some_iff.1 hx).1
  have hj : j < n := by rw [← hln]; exact (List.getElem?_eq_some_iff.1 hy).1
  have HX := Lib.hid hx
  have HY := Lib.hid hy
  have HB := Lib.hid hb
  have HO := Lib.hid h
  have HLN := Lib.hid hln
  clear hx hy hb h hln
  go_enter Tryz.func175, Tryz.ntmps175
  go_wp2
  refine wp_region_gd' 14 (Kept [g]) (swE g) (sw175Pre g n c l) (sw175F g n c i j x y l) mixed (by kernel_rfl) ((Kept.refl _ _).drew) (fun i _ _ _ h k => swE_R h k) (fun i _ _ => own_kept0 HO.out ((Kept.refl _ _).drew)) sw175F_stable (fun i' jx w w' hij hwt h hk hj => ?_) ?_ ?_
  · unfold swE at hk
    split at hk
    · rcases hj with rfl | rfl | rfl
      · exact Bool.noConfusion (show true = false from hwt)
      · exact Bool.noConfusion (show true = false from hwt)
      · exact absurd rfl hij
    · exact own_kept0 (h hj) hk
  · refine ⟨?_, ?_, ?_, ?_, ?_, ?_, ?_, ?_, ?_, ?_, ?_, ?_, ?_, ?_, trivial⟩
    all_goals go_light
    all_goals intro a W hR hpre hs hd
    all_goals have p0 : a.tmps[0]? = some (.int .i64 i) := hs.2.2 0 (by decide)
    all_goals have p1 : a.tmps[1]? = some (.int .i64 j) := hs.2.2 1 (by decide)
    all_goals have p2 : a.tmps[2]? = some (.pointer (some ⟨b, 0, none⟩)) := hs.2.2 2 (by decide)
    all_goals have hRr : Kept [] W W := Kept.refl [] W
    all_goals have hcb : W.cell? ⟨b, 0, none⟩ = some (.slice (some ⟨g, 0, none⟩) n c) := hR.cell HB.out (by simpa using hbg)
    · refine ⟨fun _ => ?_, fun hw => Bool.noConfusion (show true = false from hw)⟩
      refine ow_value (w' := W) (v := .slice (some ⟨g, 0, none⟩) n c) ?_ (.mk hRr rfl rfl)
      simp [go_sem, p2, hcb]
    · refine ⟨fun _ => ?_, fun hw => Bool.noConfusion (show true = false from hw)⟩
      refine ow_value (w' := W) (v := .int .i64 i) ?_ (.mk hRr rfl rfl)
      simp [go_sem, p0]
    · refine ⟨fun _ => ?_, fun hw => Bool.noConfusion (show true = false from hw)⟩
      refine ow_value (w' := W) (v := .slice (some ⟨g, 0, none⟩) n c) ?_ (.mk hRr rfl rfl)
      simp [go_sem, p2, hcb]
    · refine ⟨fun _ => ?_, fun hw => Bool.noConfusion (show true = false from hw)⟩
      refine ow_value (w' := W) (v := .int .i64 j) ?_ (.mk hRr rfl rfl)
      simp [go_sem, p1]
    · refine ⟨fun _ => ?_, fun hw => Bool.noConfusion (show true = false from hw)⟩
      refine ow_value (w' := W) (v := .slice (some ⟨g, 0, none⟩) n c) ?_ (.mk hRr rfl rfl)
      simp [go_sem, p2, hcb]
    · refine ⟨fun _ => ?_, fun hw => Bool.noConfusion (show true = false from hw)⟩
      refine ow_value (w' := W) (v := .int .i64 j) ?_ (.mk hRr rfl rfl)
      simp [go_sem, p1]
    · have q4 : _ = _ := hd.1 rfl
      have q5 : _ = _ := hd.2.1 rfl
      refine ⟨fun _ => ?_, fun hw => Bool.noConfusion (show true = false from hw)⟩
      refine ow_value (w' := W) (v := .pointer (some ⟨g, j * 2, none⟩)) ?_ (.mk hRr rfl rfl)
      simp [go_sem, q4, q5, show ¬ n ≤ j by omega]
    · have q6 : _ = _ := hd.1 rfl
      refine ⟨fun _ => ?_, fun hw => Bool.noConfusion (show true = false from hw)⟩
      refine ow_load_struct 242 _ rfl Tryz.underlying242 rfl rfl g (j * 2) (by simp [go_sem, q6]) (mtCells y) rfl (own_cellsG mt_len (by decide) (hpre (by simp)) HY.out) ?_
      exact .mk hRr rfl rfl
    · refine ⟨fun _ => ?_, fun hw => Bool.noConfusion (show true = false from hw)⟩
      refine ow_value (w' := W) (v := .slice (some ⟨g, 0, none⟩) n c) ?_ (.mk hRr rfl rfl)
      simp [go_sem, p2, hcb]
    · refine ⟨fun _ => ?_, fun hw => Bool.noConfusion (show true = false from hw)⟩
      refine ow_value (w' := W) (v := .int .i64 i) ?_ (.mk hRr rfl rfl)
      simp [go_sem, p0]
    · have q8 : _ = _ := hd.1 rfl
      have q9 : _ = _ := hd.2.1 rfl
      refine ⟨fun _ => ?_, fun hw => Bool.noConfusion (show true = false from hw)⟩
      refine ow_value (w' := W) (v := .pointer (some ⟨g, i * 2, none⟩)) ?_ (.mk hRr rfl rfl)
      simp [go_sem, q8, q9, show ¬ n ≤ i by omega]
    · have q10 : _ = _ := hd.1 rfl
      refine ⟨fun _ => ?_, fun hw => Bool.noConfusion (show true = false from hw)⟩
      refine ow_load_struct 242 _ rfl Tryz.underlying242 rfl rfl g (i * 2) (by simp [go_sem, q10]) (mtCells x) rfl (own_cellsG mt_len (by decide) (hpre (by simp)) HX.out) ?_
      exact .mk hRr rfl rfl
    · have q0 : _ = _ := hd.1 rfl
      have q1 : _ = _ := hd.2.1 rfl
      refine ⟨fun _ => ?_, fun hw => Bool.noConfusion (show true = false from hw)⟩
      refine ow_value (w' := W) (v := .pointer (some ⟨g, i * 2, none⟩)) ?_ (.mk hRr rfl rfl)
      simp [go_sem, q0, q1, show ¬ n ≤ i by omega]
    · have q12 : _ = _ := hd.1 rfl
      have q7 : _ = _ := hd.2.1 rfl
      refine ⟨fun _ => ?_, fun hw => Bool.noConfusion (show true = false from hw)⟩
      obtain ⟨w', h1, h2, h3⟩ := own_storeG (P := Tryz.prog) mt_len (by decide) (by kernel_rfl) y (mt_one y) (hpre (by simp)) (show i < n by omega)
      refine ow_store3 242 _ _ rfl g (i * 2) (by simp [go_sem, q12]) (by simp [go_sem, q7]) h1 ?_
      exact ⟨undef, rfl, h3, h2, fun _ => h2⟩
  · intro f W hR hf
    obtain ⟨f0, f1, f2, f3, f4, f5, f6, f7, f8, f9, f10, f11, f12, f13, -⟩ := hf
    change f 5 = _ at f0
    change f 6 = _ at f1
    change f 7 = _ at f2
    change f 8 = _ at f3
    change f 9 = _ at f4
    change f 10 = _ at f5
    change f 11 = _ at f6
    change f 12 = _ at f7
    change f 13 = _ at f8
    change f 14 = _ at f9
    change f 15 = _ at f10
    change f 16 = _ at f11
    change f 17 = _ at f12
    change W.ownsRow 0 242 2 (.slice (some ⟨g, 0, none⟩) n c) n ((l.set i y).flatMap mtCells) at f13
    simp only [headDsts, List.take_succ_cons, List.take_zero, List.filterMap_cons, List.filterMap_nil, setAll, f0, f1, f2, f3, f4, f5, f6, f7, f8, f9, f10, f11, f12, List.setIfInBounds_toArray, List.set_cons_succ, List.set_cons_zero, List.drop_succ_cons, List.drop_zero]
    clear f0 f1 f2 f3 f4 f5 f6 f7 f8 f9 f10 f11 f12 f
    obtain ⟨w3, hw1, hw2, hw3⟩ := own_storeG (P := Tryz.prog) mt_len (by decide) (by kernel_rfl) x (mt_one x) f13 (show j < n by omega)
    have HW1 := Lib.hid hw1
    have HW2 := Lib.hid hw2
    have HW3 := Lib.hid (hR.trans hw3 (fun x hx => .inl hx))
    clear hw1 hw2 hw3 hR f13
    go_wp2_with (refine wl_store3 rfl 242 _ _ rfl g (j * 2) rfl rfl HW1.out ?_)
    exact bodyPost_end (results_none rfl _ _ _) rfl ⟨rfl, HW2.out, HW3.out⟩
end Go.Proofs.YtghgffhcdnmpnaaGreat
/-
  Round robin's comparisons; its pairs in order. Conditions: partitions below a hundred; places inside the row.
-/
namespace Go.Proofs.YtghgffhcdnmpnaaGreat
open Go.RowKit Go.Sort
theorem bytesLess_slt2 (s t : ByteArray) : Op.bytesLess s.toList t.toList = slt s t := by
  rw [bytesLess_eq, ByteArray.toList_eq, ByteArray.toList_eq]
  rfl
theorem cell_alloc_at (w : World) (cs : Array Value) (T : TypeId) (fr : Nat × Nat) (i : Nat) : (w.alloc (.cells cs T fr)).cell? ⟨w.heap.size, i, none⟩ = cs[i]? := by
  simp only [World.cell?, heap_alloc_new]
  simp
set_option maxRecDepth 100000 in
set_option maxHeartbeats 1600000 in
theorem less176_any (g n c b i j : Nat) (l : List (ByteArray × Nat)) (x y : ByteArray × Nat) (w : World) (hb : w.cell? ⟨b, 0, none⟩ = some (.slice (some ⟨g, 0, none⟩) n c)) (h : w.ownsRow 0 242 2 (.slice (some ⟨g, 0, none⟩) n c) n (l.flatMap mtCells)) (hx : l[i]? = some x) (hy : l[j]? = some y) :
    Calls Tryz.prog 176 #[.int .i64 i, .int .i64 j, .pointer (some ⟨b, 0, none⟩)] w fun e w' => e = .returned (.bool (slt x.1 y.1)) ∧ Kept [] w w' := by
  have hln : l.length = n := by have := h.1; rw [flat_len mtCells 2 mt_len] at this; omega
  have hi : i < n := by rw [← hln]; exact (List.getElem?_eq_some_iff.1 hx).1
  have hj : j < n := by rw [← hln]; exact (List.getElem?_eq_some_iff.1 hy).1
  have hn : n ≤ 9223372036854775807 := by
    rcases h.2 with ⟨e0, _⟩ | ⟨g', cap, cur, e0, _, _, h1, h2, _⟩
    · cases e0
    · simp only [maxLen] at h2; omega
  obtain ⟨tx, px⟩ := x
  obtain ⟨ty, py⟩ := y
  have HCX : Hid (∀ q v, [Value.map (some px), .string tx][q]? = some v → w.cell? ⟨g, i * 2 + q, none⟩ = some v) := own_cellsG mt_len (by decide) h hx
  have HCY : Hid (∀ q v, [Value.map (some py), .string ty][q]? = some v → w.cell? ⟨g, j * 2 + q, none⟩ = some v) := own_cellsG mt_len (by decide) h hy
  clear h hx hy hln
  have HBL := bytesLess_slt2 tx ty
  have HS := Lib.hid HBL
  clear HBL
  have hb2 := ((Kept.refl [] w).alloc (.cells #[Value.map (some px), .string tx] 242)).cell hb (by simp)
  go_enter Tryz.func176, Tryz.ntmps176
  go_wp2_with (first
    | (refine wl_load_struct rfl 242 _ rfl Tryz.underlying242 rfl rfl g (i * 2) rfl [Value.map (some px), .string tx] rfl HCX.out ?_)
    | (refine wl_load_struct rfl 242 _ rfl Tryz.underlying242 rfl rfl g (j * 2) rfl [Value.map (some py), .string ty] rfl (fun q v hv => ((Kept.refl [] w).alloc _).cell (HCY.out q v hv) (by simp)) ?_))
  go_ret
  exact ⟨congrArg (fun b => Ending.returned (.bool b)) HS.out, ((Kept.refl [] w).alloc _).alloc _⟩
theorem ordB_key {α : Type} (k : α → ByteArray) : OrdB (fun x y : α => slt (k x) (k y)) where
  asymm := fun x y h => by
    cases h2 : slt (k y) (k x) with
    | false => rfl
    | true =>
      have := slt_trans h h2
      rw [slt_irrefl] at this
      cases this
  trans := fun a b c h1 h2 => by
    simp only [slt, decide_eq_false_iff_not] at *
    exact fun h => h1 (Std.lt_of_le_of_lt (List.not_lt.1 h2) h)
def SRow {α : Type} (f : α → List Value) (e g n c : Nat) (Ok : α → Prop) (w0 : World) (l : List α) (W : World) : Prop :=
  (∀ p ∈ l, Ok p) ∧ W.ownsRow 0 e 2 (.slice (some ⟨g, 0, none⟩) n c) n (l.flatMap f) ∧ Kept [g] w0 W
theorem mem_swap {α : Type} {l : List α} {i j : Nat} {x y : α} (hx : l[i]? = some x) (hy : l[j]? = some y) : ∀ p ∈ (l.set i y).set j x, p ∈ l := by
  intro p hp
  rcases List.mem_or_eq_of_mem_set hp with h | rfl
  · rcases List.mem_or_eq_of_mem_set h with h | rfl
    · exact h
    · exact List.mem_of_getElem? hy
  · exact List.mem_of_getElem? hx
set_option maxRecDepth 100000 in
theorem sortMt (g n c b : Nat) (l : List (ByteArray × Nat)) (w : World) (hb : w.cell? ⟨b, 0, none⟩ = some (.slice (some ⟨g, 0, none⟩) n c)) (hbg : b ≠ g) (h : w.ownsRow 0 242 2 (.slice (some ⟨g, 0, none⟩) n c) n (l.flatMap mtCells)) (hn : n ≤ 1000000) :
    Calls Tryz.prog 171 #[.int .i64 n, .func (.func 175) #[] #[.pointer (some ⟨b, 0, none⟩)], .func (.func 176) #[] #[.pointer (some ⟨b, 0, none⟩)]] w fun e w' => e = .returned (.tuple #[]) ∧ ∃ l' : List (ByteArray × Nat), l'.Perm l ∧ l'.Pairwise (fun p q => slt q.1 p.1 = false) ∧ w'.ownsRow 0 242 2 (.slice (some ⟨g, 0, none⟩) n c) n (l'.flatMap mtCells) ∧ Kept [g] w w' := by
  have hln : l.length = n := by have := h.1; rw [flat_len mtCells 2 mt_len] at this; omega
  refine (zzSort_any (ordB_key Prod.fst) 175 176 #[.pointer (some ⟨b, 0, none⟩)] #[.pointer (some ⟨b, 0, none⟩)] (SRow mtCells 242 g n c (fun _ => True) w) (fun _ _ => rfl) (fun _ _ => rfl) ?_ ?_ l n hln w ⟨fun _ _ => trivial, h, Kept.refl _ _⟩ hn).mono ?_
  · rintro l1 W i j x y ⟨h1, h2, h3⟩ hx hy
    refine (less176_any g n c b i j l1 x y W (h3.cell hb (by simpa using hbg)) h2 hx hy).mono ?_
    rintro e w' ⟨he, hk⟩
    exact ⟨he, h1, own_kept0 h2 hk, h3.trans0 hk⟩
  · rintro l1 W i j x y ⟨h1, h2, h3⟩ hx hy _
    refine (swap175_any g n c b i j l1 x y W (h3.cell hb (by simpa using hbg)) hbg h2 hx hy hn).mono ?_
    rintro e w' ⟨he, hr, hk⟩
    exact ⟨he, fun p hp => h1 p (mem_swap hx hy p hp), hr, h3.trans hk (fun x hx => .inl hx)⟩
  · rintro e w' ⟨he, l', hp, hs, h1, h2, h3⟩
    exact ⟨he, l', hp, hs, h2, h3⟩
end Go.Proofs.YtghgffhcdnmpnaaGreat
/-
  hasTopic; a set of topics. Conditions: none.
-/
namespace Go.Proofs.YtghgffhcdnmpnaaGreat
open Go.RowKit Go.Sort
/-- A set of topics in memory. -/
def TopsIn (w : World) (I : Nat) (tops : List ByteArray) : Prop := MapIs Value.string w I (tops.map fun t => (t, Value.agg #[]))
theorem mget_tops (tops : List ByteArray) (t : ByteArray) : mget (tops.map fun t => (t, Value.agg #[])) t = if t ∈ tops then some (.agg #[]) else none := by
  induction tops with
  | nil => rfl
  | cons a r ih =>
    simp only [List.map_cons, mget]
    by_cases h : a = t
    · subst h
      simp
    · have h' : ¬ t = a := fun e => h e.symm
      simp [h, h', ih]
set_option maxRecDepth 100000 in
theorem hasTopic_any (b I : Nat) (tops : List ByteArray) (t : ByteArray) (w : World) (hc : w.cell? ⟨b, 0, none⟩ = some (.map (some I))) (hT : TopsIn w I tops) :
    Calls Tryz.prog 177 #[.pointer (some ⟨b, 0, none⟩), .string t] w fun e w' => e = .returned (.bool (decide (t ∈ tops))) ∧ Kept [] w w' := by
  have HT := Lib.hid hT
  have HG := Lib.hid (mget_tops tops t)
  clear hT
  go_enter Tryz.func177, Tryz.ntmps177
  by_cases h : t ∈ tops
  all_goals
    go_wp2_with (first
      | (refine wl_lookup_ok rfl _ _ 240 rfl 123 Tryz.underlying240 str9 (.agg #[]) (Tryz.zeroValue123 _) I _ rfl HT.out t rfl ?_; rw [HG.out])
      | (refine wl_store_struct rfl 123 _ _ rfl (cs := #[]) rfl w.heap.size rfl rfl 123 #[] (heap_alloc_new _ _) rfl rfl ?_))
    go_ret
    exact ⟨by simp [h], (Kept.refl [] w).alloc _⟩
end Go.Proofs.YtghgffhcdnmpnaaGreat
