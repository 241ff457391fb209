/-
  Maps keyed by the struct of a topic and a partition (type 268). Conditions: none.
-/
import Derived.Test.YtghgffhcdnmpnaaGreatZC1
import Derived.Test.YtghgffhcdnmpnaaGreatZC9
import Derived.Laws.StructEq
import Derived.Laws.Small
import Derived.Laws.Cover2
import Derived.KernelRfl
import Derived.DeepKeys4
import Derived.Test.YtghgffhcdnmpnaaGreatZL1
import Derived.Test.YtghgffhcdnmpnaaGreatZL3
namespace Go.Proofs.YtghgffhcdnmpnaaGreat
open Go.RowKit Go.MapKept

/-- The key of a topic and a partition. -/
abbrev tpEnc (p : ByteArray × Int) : Value := .agg #[.string p.1, .int .i32 p.2]

set_option maxRecDepth 100000 in
theorem eq268 (a b : ByteArray) (c d : Int) (w : World) : (Op.equalIn 10000 268 (.agg #[.string a, .int .i32 c]) (.agg #[.string b, .int .i32 d])).run Tryz.prog w = .ok (a == b && c == d) w := by
  have hS : Tryz.prog.underlying 268 = some (.struct (Tryz.prog.fieldsOf 268)) := by kernel_rfl
  have hp : Tryz.prog.stoodInHeld 268 = false := by kernel_rfl
  rw [show (10000 : Nat) = 9999 + 1 from rfl, run_equalIn_agg w 9999 268 _ _ hS hp]
  simp only [Program.fieldsOf, Tryz.underlying268]
  have u9 := Tryz.underlying9
  have u21 := Tryz.underlying21
  have a9 := Tryz.isAgg9
  have a21 := Tryz.isAgg21
  have z9 := Tryz.sizeOf9
  have z21 := Tryz.sizeOf21
  have hb := beq_toListBytes a b
  go_simp
  by_cases h1 : a.toList = b.toList <;> by_cases h2 : c = d <;> simp [h1, h2]
theorem equal268 (p q : ByteArray × Int) (w : World) : (Op.equal 268 (tpEnc p) (tpEnc q)).run Tryz.prog w = .ok (decide (p = q)) w := by
  have h := eq268 p.1 q.1 p.2 q.2 w
  rw [show (p.1 == q.1 && p.2 == q.2) = decide (p = q) from by
    rw [Bool.eq_iff_iff]; simp only [Bool.and_eq_true, beq_iff_eq, decide_eq_true_eq, Prod.ext_iff]] at h
  exact h
theorem tpEnc_inj {p q : ByteArray × Int} (h : tpEnc p = tpEnc q) : p = q := by
  simp only [tpEnc, Value.agg.injEq] at h
  have h' := congrArg Array.toList h
  simp at h'
  exact Prod.ext h'.1 h'.2
theorem asking268 (w : World) (k : ByteArray × Int) : ∀ (es : List MapEntry) (i : Nat), (∀ e ∈ es, ∃ k', e.key = tpEnc k') →
    ((Instr.findAsking 268 (tpEnc k) es i).run Tryz.prog w = .ok none w ∧ ∀ e ∈ es, e.key ≠ tpEnc k) ∨
    ∃ j e, (Instr.findAsking 268 (tpEnc k) es i).run Tryz.prog w = .ok (some (i + j, e.val)) w ∧ es[j]? = some e ∧ e.key = tpEnc k
  | [], i, _ => Or.inl ⟨by simp [Instr.findAsking], by simp⟩
  | e :: es, i, hall => by
    obtain ⟨k', hk'⟩ := hall e (by simp)
    have hr := equal268 k k' w
    rw [← hk'] at hr
    by_cases hkk : k = k'
    · rw [decide_eq_true hkk] at hr
      exact Or.inr ⟨0, e, by simp only [Instr.findAsking, Sem.run_bind, hr, Result.andThen_ok]; simp, rfl, by rw [hk', hkk]⟩
    · rw [decide_eq_false hkk] at hr
      rcases asking268 w k es (i + 1) (fun y hy => hall y (by simp [hy])) with ⟨h1, h2⟩ | ⟨j, e', h1, h2, h3⟩
      · refine Or.inl ⟨by simp only [Instr.findAsking, Sem.run_bind, hr, Result.andThen_ok]; simpa using h1, fun y hy => ?_⟩
        rcases List.mem_cons.1 hy with rfl | hy
        · rw [hk']
          exact fun h => hkk (tpEnc_inj h).symm
        · exact h2 y hy
      · exact Or.inr ⟨j + 1, e', by simp only [Instr.findAsking, Sem.run_bind, hr, Result.andThen_ok]; simpa [Nat.add_assoc, Nat.add_comm 1 j] using h1, by simpa using h2, h3⟩
theorem check21 (w : World) (em : Bool) (n : Nat) (x : Int) : (Instr.checkKey em (n + 1) 21 (.int .i32 x)).run Tryz.prog w = .ok () w := by
  simp only [Instr.checkKey, Sem.run_bind, run_underlying Tryz.underlying21, Result.andThen_ok, Sem.run_pure]
theorem check268 (w : World) (em : Bool) (n : Nat) (k : ByteArray × Int) : (Instr.checkKey em (n + 1 + 1) 268 (tpEnc k)).run Tryz.prog w = .ok () w := by
  have hu := Tryz.underlying268
  have a9 := Tryz.isAgg9
  have a21 := Tryz.isAgg21
  rw [Instr.checkKey]
  simp only [Sem.run_bind, run_underlying hu, Result.andThen_ok]
  rw [← Array.forIn_toList]
  have p1 : (part 9 #[Value.string k.1, Value.int .i32 k.2] 0).run Tryz.prog w = .ok (.string k.1) w := by go_simp
  have p2 : (part 21 #[Value.string k.1, Value.int .i32 k.2] 1).run Tryz.prog w = .ok (.int .i32 k.2) w := by go_simp
  have c1 : (Instr.checkKey em (n + 1) 9 (.string k.1)).run Tryz.prog w = .ok () w := MapKept.run_checkKey (k := .string k.1) Tryz.underlying9 trivial em n
  have c2 := check21 w em n k.2
  have n1 : ("Topic" : String) ≠ "_" := by decide
  have n2 : ("Partition" : String) ≠ "_" := by decide
  simp only [List.forIn_cons, List.forIn_nil, Sem.run_bind, if_pos n1, if_pos n2, p1, p2, c1, c2, Result.andThen_ok, Sem.run_pure]
theorem same268 (n : Nat) (k : ByteArray × Int) : Instr.sameBits (n + 1 + 1) (tpEnc k) (tpEnc k) = true := by
  simp [Instr.sameBits]
theorem find268 (w : World) (k : ByteArray × Int) (es : List MapEntry) (hes : ∀ e ∈ es, ∃ k', e.key = tpEnc k') :
    ((Instr.findKey 268 (tpEnc k) es).run Tryz.prog w = .ok none w ∧ ∀ e ∈ es, e.key ≠ tpEnc k) ∨ ∃ j e, (Instr.findKey 268 (tpEnc k) es).run Tryz.prog w = .ok (some (j, e.val)) w ∧ es[j]? = some e ∧ e.key = tpEnc k := by
  rw [run_findKey_eq (P := Tryz.prog) (k := 268) w (by rw [Tryz.underlying268])]
  rcases asking268 w k es 0 hes with ⟨h1, h2⟩ | ⟨j, e, h1, h2, h3⟩
  · exact Or.inl ⟨h1, h2⟩
  · exact Or.inr ⟨j, e, by rw [h1, Nat.zero_add], h2, h3⟩
/-- Maps keyed by a topic and a partition. -/
theorem tp_keys : KeyOps Tryz.prog 268 tpEnc where
  inj h := tpEnc_inj h
  check w em k := check268 w em 9998 k
  find w k es hes := find268 w k es hes
  stays w k := by
    rw [Instr.keyThatStays, if_pos (same268 9998 k)]
    rfl
end Go.Proofs.YtghgffhcdnmpnaaGreat
/-
  The sticky strategies' sort of members: the exchange in a row of names. Conditions: places inside the row.
-/
namespace Go.Proofs.YtghgffhcdnmpnaaGreat
open Go.RowKit Go.Sort
theorem strs_flat (l : List ByteArray) : strs l = l.flatMap (fun x => [Value.string x]) := by
  induction l with
  | nil => rfl
  | cons a l ih => rw [List.flatMap_cons, ← ih]; rfl
theorem ow_storeV {P : Program} {o : Oper} {a : Act} {w w' : World} {Q : Exit → Act → World → Prop} {K : Act → World → Prop} (ty : TypeId) (x y : Operand) (ho : o.op = .store ty x y) {v : Value} (g off : Nat) (hx : a.eval x = .pointer (some ⟨g, off, none⟩)) (hy : a.eval y = v)
    (hrun : (storeVar ty ⟨g, off, none⟩ v).run P w = .ok () w') (h : K (a.put o.dst undef) w') : o.wp P a w K Q := by
  unfold Oper.wp execOp
  simp only [ho, hx, hy, Instr.storeAt, Instr.sureAddr, Sem.run_bind, Sem.run_pure, Result.andThen_ok, hrun]
  exact h
theorem wl_storeV {P : Program} {ops : Array Oper} {rest : List Oper} {o : Oper} {a : Act} {w w' : World} {Q : Exit → Act → World → Prop} (hgd : o.guard = none) (ty : TypeId) (x y : Operand) (ho : o.op = .store ty x y) {v : Value} (g off : Nat) (hx : a.eval x = .pointer (some ⟨g, off, none⟩)) (hy : a.eval y = v)
    (hrun : (storeVar ty ⟨g, off, none⟩ v).run P w = .ok () w') (h : wpList P ops Q rest (a.put o.dst undef) w') : wpList P ops Q (o :: rest) a w :=
  wpList_plain hgd fun _ hK => ow_storeV ty x y ho g off hx hy hrun (hK _ _ h)
/-- A name is laid into a row of names. -/
theorem own_store1 {w : World} {base g n cap j : Nat} {l : List ByteArray} (y : ByteArray) (h : w.ownsRow base 9 1 (.slice (some ⟨g, 0, none⟩) n cap) n (strs l)) (hj : j < n) :
    ∃ w', (storeVar 9 ⟨g, j, none⟩ (.string y)).run Tryz.prog w = .ok () w' ∧ w'.ownsRow base 9 1 (.slice (some ⟨g, 0, none⟩) n cap) n (strs (l.set j y)) ∧ Kept [g] w w' := by
  rw [strs_flat] at h
  obtain ⟨w', h1, h2, h3⟩ := own_storeG (P := Tryz.prog) (f := fun x => [Value.string x]) (s := 1) (e := 9) (fun _ => rfl) (by decide) (by kernel_rfl) y (by intro v hv; simp at hv; subst hv; rfl) h hj
  rw [← strs_flat] at h2
  rw [Nat.mul_one] at h1
  refine ⟨w', ?_, h2, h3⟩
  rw [← h1]
  simp [storeVar, Value.cells]
def sw210F (g n c i j : Nat) (x y : ByteArray) (l : List ByteArray) (ix : Nat) (v : Value) (W : World) : Prop :=
  match ix with
  | 0 => v = .slice (some ⟨g, 0, none⟩) n c
  | 1 => v = .int .i64 i
  | 2 => v = .slice (some ⟨g, 0, none⟩) n c
  | 3 => v = .int .i64 j
  | 4 => v = .slice (some ⟨g, 0, none⟩) n c
  | 5 => v = .int .i64 j
  | 6 => v = .pointer (some ⟨g, j, none⟩)
  | 7 => v = .string y
  | 8 => v = .slice (some ⟨g, 0, none⟩) n c
  | 9 => v = .int .i64 i
  | 10 => v = .pointer (some ⟨g, i, none⟩)
  | 11 => v = .string x
  | 12 => v = .pointer (some ⟨g, i, none⟩)
  | 13 => W.ownsRow 0 9 1 (.slice (some ⟨g, 0, none⟩) n c) n (strs (l.set i y))
  | _ => True
theorem sw210F_stable {g n c i j x y l} : ∀ i' jx v w w', i' ≠ jx → sw210F g n c i j x y l jx v w → swE g i' w w' → sw210F g n c i j x y l jx v w' := by
  intro i' jx v w w' hij h hk
  unfold sw210F at h ⊢
  split at h <;> (first | (exact h) | skip)
  unfold swE at hk
  split at hk
  · exact absurd rfl hij
  · exact own_kept0 h hk
def sw210Pre (g n c : Nat) (l : List ByteArray) (i : Nat) (w : World) : Prop := (i = 7 ∨ i = 11 ∨ i = 13) → w.ownsRow 0 9 1 (.slice (some ⟨g, 0, none⟩) n c) n (strs l)
set_option maxRecDepth 100000 in
set_option maxHeartbeats 1600000 in
theorem swap210_any (g n c b i j : Nat) (l : List ByteArray) (x y : ByteArray) (w : World) (hb : w.cell? ⟨b, 0, none⟩ = some (.slice (some ⟨g, 0, none⟩) n c)) (hbg : b ≠ g) (h : w.ownsRow 0 9 1 (.slice (some ⟨g, 0, none⟩) n c) n (strs l)) (hx : l[i]? = some x) (hy : l[j]? = some y) (_hn : n ≤ 1000000) :
    Calls Tryz.prog 210 #[.int .i64 i, .int .i64 j, .pointer (some ⟨b, 0, none⟩)] w fun e w' => e = .returned (.tuple #[]) ∧ w'.ownsRow 0 9 1 (.slice (some ⟨g, 0, none⟩) n c) n (strs ((l.set i y).set j x)) ∧ Kept [g] w w' := by
  have hln : l.length = n := by have := h.1; simpa [strs] using this
  have hi : i < n := by rw [← hln]; exact (List.getElem?_eq_some_iff.1 hx).1
  have hj : j < n := by rw [← hln]; exact (List.getElem?_eq_some_iff.1 hy).1
  have HXs := Lib.hid (show (strs l)[i]? = some (Value.string x) by simp [strs, hx])
  have HYs := Lib.hid (show (strs l)[j]? = some (Value.string y) by simp [strs, hy])
  have HB := Lib.hid hb
  have HO := Lib.hid h
  have HLN := Lib.hid hln
  clear hx hy hb h hln
  go_enter Tryz.func210, Tryz.ntmps210
  go_wp2
  refine wp_region_gd' 14 (Kept [g]) (swE g) (sw210Pre g n c l) (sw210F g n c i j x y l) mixed (by kernel_rfl) ((Kept.refl _ _).drew) (fun i _ _ _ h k => swE_R h k) (fun i _ _ => own_kept0 HO.out ((Kept.refl _ _).drew)) sw210F_stable (fun i' jx w w' hij hwt h hk hj => ?_) ?_ ?_
  · unfold swE at hk
    split at hk
    · rcases hj with rfl | rfl | rfl
      · exact Bool.noConfusion (show true = false from hwt)
      · exact Bool.noConfusion (show true = false from hwt)
      · exact absurd rfl hij
    · exact own_kept0 (h hj) hk
  · refine ⟨?_, ?_, ?_, ?_, ?_, ?_, ?_, ?_, ?_, ?_, ?_, ?_, ?_, ?_, trivial⟩
    all_goals go_light
    all_goals intro a W hR hpre hs hd
    all_goals have p0 : a.tmps[0]? = some (.int .i64 i) := hs.2.2 0 (by decide)
    all_goals have p1 : a.tmps[1]? = some (.int .i64 j) := hs.2.2 1 (by decide)
    all_goals have p2 : a.tmps[2]? = some (.pointer (some ⟨b, 0, none⟩)) := hs.2.2 2 (by decide)
    all_goals have hRr : Kept [] W W := Kept.refl [] W
    all_goals have hcb : W.cell? ⟨b, 0, none⟩ = some (.slice (some ⟨g, 0, none⟩) n c) := hR.cell HB.out (by simpa using hbg)
    · refine ⟨fun _ => ?_, fun hw => Bool.noConfusion (show true = false from hw)⟩
      refine ow_value (w' := W) (v := .slice (some ⟨g, 0, none⟩) n c) ?_ (.mk hRr rfl rfl)
      simp [go_sem, p2, hcb]
    · refine ⟨fun _ => ?_, fun hw => Bool.noConfusion (show true = false from hw)⟩
      refine ow_value (w' := W) (v := .int .i64 i) ?_ (.mk hRr rfl rfl)
      simp [go_sem, p0]
    · refine ⟨fun _ => ?_, fun hw => Bool.noConfusion (show true = false from hw)⟩
      refine ow_value (w' := W) (v := .slice (some ⟨g, 0, none⟩) n c) ?_ (.mk hRr rfl rfl)
      simp [go_sem, p2, hcb]
    · refine ⟨fun _ => ?_, fun hw => Bool.noConfusion (show true = false from hw)⟩
      refine ow_value (w' := W) (v := .int .i64 j) ?_ (.mk hRr rfl rfl)
      simp [go_sem, p1]
    · refine ⟨fun _ => ?_, fun hw => Bool.noConfusion (show true = false from hw)⟩
      refine ow_value (w' := W) (v := .slice (some ⟨g, 0, none⟩) n c) ?_ (.mk hRr rfl rfl)
      simp [go_sem, p2, hcb]
    · refine ⟨fun _ => ?_, fun hw => Bool.noConfusion (show true = false from hw)⟩
      refine ow_value (w' := W) (v := .int .i64 j) ?_ (.mk hRr rfl rfl)
      simp [go_sem, p1]
    · have q4 : _ = _ := hd.1 rfl
      have q5 : _ = _ := hd.2.1 rfl
      refine ⟨fun _ => ?_, fun hw => Bool.noConfusion (show true = false from hw)⟩
      refine ow_value (w' := W) (v := .pointer (some ⟨g, j, none⟩)) ?_ (.mk hRr rfl rfl)
      simp [go_sem, q4, q5, show ¬ n ≤ j by omega]
    · have q6 : _ = _ := hd.1 rfl
      refine ⟨fun _ => ?_, fun hw => Bool.noConfusion (show true = false from hw)⟩
      have hy := (own_cell (hpre (by simp)) (HYs.out)).1
      refine ow_value (w' := W) (v := .string y) ?_ (.mk hRr rfl rfl)
      simp [go_sem, q6, hy]
    · refine ⟨fun _ => ?_, fun hw => Bool.noConfusion (show true = false from hw)⟩
      refine ow_value (w' := W) (v := .slice (some ⟨g, 0, none⟩) n c) ?_ (.mk hRr rfl rfl)
      simp [go_sem, p2, hcb]
    · refine ⟨fun _ => ?_, fun hw => Bool.noConfusion (show true = false from hw)⟩
      refine ow_value (w' := W) (v := .int .i64 i) ?_ (.mk hRr rfl rfl)
      simp [go_sem, p0]
    · have q8 : _ = _ := hd.1 rfl
      have q9 : _ = _ := hd.2.1 rfl
      refine ⟨fun _ => ?_, fun hw => Bool.noConfusion (show true = false from hw)⟩
      refine ow_value (w' := W) (v := .pointer (some ⟨g, i, none⟩)) ?_ (.mk hRr rfl rfl)
      simp [go_sem, q8, q9, show ¬ n ≤ i by omega]
    · have q10 : _ = _ := hd.1 rfl
      refine ⟨fun _ => ?_, fun hw => Bool.noConfusion (show true = false from hw)⟩
      have hx := (own_cell (hpre (by simp)) (HXs.out)).1
      refine ow_value (w' := W) (v := .string x) ?_ (.mk hRr rfl rfl)
      simp [go_sem, q10, hx]
    · have q0 : _ = _ := hd.1 rfl
      have q1 : _ = _ := hd.2.1 rfl
      refine ⟨fun _ => ?_, fun hw => Bool.noConfusion (show true = false from hw)⟩
      refine ow_value (w' := W) (v := .pointer (some ⟨g, i, none⟩)) ?_ (.mk hRr rfl rfl)
      simp [go_sem, q0, q1, show ¬ n ≤ i by omega]
    · have q12 : _ = _ := hd.1 rfl
      have q7 : _ = _ := hd.2.1 rfl
      refine ⟨fun _ => ?_, fun hw => Bool.noConfusion (show true = false from hw)⟩
      obtain ⟨w', h1, h2, h3⟩ := own_store1 y (hpre (by simp)) (show i < n by omega)
      refine ow_storeV 9 _ _ rfl g i (by simp [go_sem, q12]) (by simp [go_sem, q7]) h1 ?_
      exact ⟨undef, rfl, h3, h2, fun _ => h2⟩
  · intro f W hR hf
    obtain ⟨f0, f1, f2, f3, f4, f5, f6, f7, f8, f9, f10, f11, f12, f13, -⟩ := hf
    change f 5 = _ at f0
    change f 6 = _ at f1
    change f 7 = _ at f2
    change f 8 = _ at f3
    change f 9 = _ at f4
    change f 10 = _ at f5
    change f 11 = _ at f6
    change f 12 = _ at f7
    change f 13 = _ at f8
    change f 14 = _ at f9
    change f 15 = _ at f10
    change f 16 = _ at f11
    change f 17 = _ at f12
    change W.ownsRow 0 9 1 (.slice (some ⟨g, 0, none⟩) n c) n (strs (l.set i y)) at f13
    simp only [headDsts, List.take_succ_cons, List.take_zero, List.filterMap_cons, List.filterMap_nil, setAll, f0, f1, f2, f3, f4, f5, f6, f7, f8, f9, f10, f11, f12, List.setIfInBounds_toArray, List.set_cons_succ, List.set_cons_zero, List.drop_succ_cons, List.drop_zero]
    clear f0 f1 f2 f3 f4 f5 f6 f7 f8 f9 f10 f11 f12 f
    obtain ⟨w3, hw1, hw2, hw3⟩ := own_store1 x f13 (show j < n by omega)
    have HW1 := Lib.hid hw1
    have HW2 := Lib.hid hw2
    have HW3 := Lib.hid (hR.trans hw3 (fun x hx => .inl hx))
    clear hw1 hw2 hw3 hR f13
    go_wp2_with (refine wl_storeV rfl 9 _ _ rfl g j rfl rfl HW1.out ?_)
    exact bodyPost_end (results_none rfl _ _ _) rfl ⟨rfl, HW2.out, HW3.out⟩
end Go.Proofs.YtghgffhcdnmpnaaGreat
/-
  The sticky strategies' comparison of members: by the number of their partitions, then by name. Conditions: places inside the row; every name has an entry.
-/
namespace Go.Proofs.YtghgffhcdnmpnaaGreat
open Go.RowKit Go.Sort
def lm1F (g n c i j M sx sy cx cy : Nat) (ax ay : Option Addr) (x y : ByteArray) (ix : Nat) (v : Value) (_ : World) : Prop :=
  match ix with
  | 0 => v = .map (some M)
  | 1 => v = .slice (some ⟨g, 0, none⟩) n c
  | 2 => v = .int .i64 i
  | 3 => v = .pointer (some ⟨g, i, none⟩)
  | 4 => v = .string x
  | 5 => v = .slice ax sx cx
  | 6 => v = .int .i64 sx
  | 7 => v = .map (some M)
  | 8 => v = .slice (some ⟨g, 0, none⟩) n c
  | 9 => v = .int .i64 j
  | 10 => v = .pointer (some ⟨g, j, none⟩)
  | 11 => v = .string y
  | 12 => v = .slice ay sy cy
  | 13 => v = .int .i64 sy
  | 14 => v = .int .i64 ((sx : Int) - sy)
  | _ => True
theorem lm1F_stable {g n c i j M sx sy cx cy ax ay x y} : ∀ ix v w w', lm1F g n c i j M sx sy cx cy ax ay x y ix v w → Kept [] w w' → lm1F g n c i j M sx sy cx cy ax ay x y ix v w' := by
  intro ix v w w' h k
  unfold lm1F at h ⊢
  split at h <;> (first | (exact h))
def lm3F (g n c i j _M _sx _sy _cx _cy : Nat) (_ax _ay : Option Addr) (x y : ByteArray) (ix : Nat) (v : Value) (_ : World) : Prop :=
  match ix with
  | 0 => v = .slice (some ⟨g, 0, none⟩) n c
  | 1 => v = .int .i64 i
  | 2 => v = .pointer (some ⟨g, i, none⟩)
  | 3 => v = .string x
  | 4 => v = .slice (some ⟨g, 0, none⟩) n c
  | 5 => v = .int .i64 j
  | 6 => v = .pointer (some ⟨g, j, none⟩)
  | 7 => v = .string y
  | 8 => v = .bool (slt x y)
  | _ => True
theorem lm3F_stable {g n c i j M sx sy cx cy ax ay x y} : ∀ ix v w w', lm3F g n c i j M sx sy cx cy ax ay x y ix v w → Kept [] w w' → lm3F g n c i j M sx sy cx cy ax ay x y ix v w' := by
  intro ix v w w' h k
  unfold lm3F at h ⊢
  split at h <;> (first | (exact h))
def lm4F (g n c i j M sx sy cx cy : Nat) (ax ay : Option Addr) (x y : ByteArray) (ix : Nat) (v : Value) (_ : World) : Prop :=
  match ix with
  | 0 => v = .map (some M)
  | 1 => v = .slice (some ⟨g, 0, none⟩) n c
  | 2 => v = .int .i64 i
  | 3 => v = .pointer (some ⟨g, i, none⟩)
  | 4 => v = .string x
  | 5 => v = .slice ax sx cx
  | 6 => v = .int .i64 sx
  | 7 => v = .map (some M)
  | 8 => v = .slice (some ⟨g, 0, none⟩) n c
  | 9 => v = .int .i64 j
  | 10 => v = .pointer (some ⟨g, j, none⟩)
  | 11 => v = .string y
  | 12 => v = .slice ay sy cy
  | 13 => v = .int .i64 sy
  | 14 => v = .bool (decide (sx < sy))
  | _ => True
theorem lm4F_stable {g n c i j M sx sy cx cy ax ay x y} : ∀ ix v w w', lm4F g n c i j M sx sy cx cy ax ay x y ix v w → Kept [] w w' → lm4F g n c i j M sx sy cx cy ax ay x y ix v w' := by
  intro ix v w w' h k
  unfold lm4F at h ⊢
  split at h <;> (first | (exact h))
set_option maxRecDepth 100000 in
set_option maxHeartbeats 1600000 in
theorem less211_any (g n c b bm M i j sx sy cx cy : Nat) (ax ay : Option Addr) (l : List ByteArray) (m : List (ByteArray × Value)) (x y : ByteArray) (w : World) (hb : w.cell? ⟨b, 0, none⟩ = some (.slice (some ⟨g, 0, none⟩) n c)) (hm : w.cell? ⟨bm, 0, none⟩ = some (.map (some M))) (hM : MapIs Value.string w M m)
    (h : w.ownsRow 0 9 1 (.slice (some ⟨g, 0, none⟩) n c) n (strs l)) (hx : l[i]? = some x) (hy : l[j]? = some y) (hsx : mget m x = some (.slice ax sx cx)) (hsy : mget m y = some (.slice ay sy cy)) (_hn : n ≤ 1000000) (hlx : sx ≤ 1000000000) (hly : sy ≤ 1000000000) :
    Calls Tryz.prog 211 #[.int .i64 i, .int .i64 j, .pointer (some ⟨bm, 0, none⟩), .pointer (some ⟨b, 0, none⟩)] w fun e w' => e = .returned (.bool (if sx = sy then slt x y else decide (sx < sy))) ∧ Kept [] w w' := by
  obtain ⟨r, hr⟩ : ∃ r, (if sx = sy then slt x y else decide (sx < sy)) = r := ⟨_, rfl⟩
  rw [hr]
  have HRR := Lib.hid hr
  clear hr
  have hln : l.length = n := by have := h.1; simpa [strs] using this
  have hi : i < n := by rw [← hln]; exact (List.getElem?_eq_some_iff.1 hx).1
  have hj : j < n := by rw [← hln]; exact (List.getElem?_eq_some_iff.1 hy).1
  have HCX := Lib.hid (own_cell h (show (strs l)[i]? = some (Value.string x) by simp [strs, hx])).1
  have HCY := Lib.hid (own_cell h (show (strs l)[j]? = some (Value.string y) by simp [strs, hy])).1
  have HB := Lib.hid hb
  have HM := Lib.hid hm
  have HMI := Lib.hid hM
  have HX := Lib.hid hsx
  have HY := Lib.hid hsy
  have hwr : IntKind.i64.wrap ((sx : Int) - sy) = (sx : Int) - sy := by rw [IntWalk.i64_left, IntWalk.wrap64_in _ (by omega)]
  clear hx hy hb h hln hm hM hsx hsy
  go_enter Tryz.func211, Tryz.ntmps211
  go_wp2
  refine wp_region_facts' 15 (Kept []) (lm1F g n c i j M sx sy cx cy ax ay x y) mixed (by kernel_rfl) ((Kept.refl _ _).drew) (fun _ _ _ h k => h.trans0 k) lm1F_stable ?_ ?_
  · refine ⟨?_, ?_, ?_, ?_, ?_, ?_, ?_, ?_, ?_, ?_, ?_, ?_, ?_, ?_, ?_, trivial⟩
    all_goals go_light
    all_goals intro a W hR hs hd
    all_goals have p0 : a.tmps[0]? = some (.int .i64 i) := hs.2.2 0 (by decide)
    all_goals have p1 : a.tmps[1]? = some (.int .i64 j) := hs.2.2 1 (by decide)
    all_goals have p2 : a.tmps[2]? = some (.pointer (some ⟨bm, 0, none⟩)) := hs.2.2 2 (by decide)
    all_goals have p3 : a.tmps[3]? = some (.pointer (some ⟨b, 0, none⟩)) := hs.2.2 3 (by decide)
    all_goals have hRr : Kept [] W W := Kept.refl [] W
    all_goals have hRw := hR
    all_goals have hcb : W.cell? ⟨b, 0, none⟩ = some (.slice (some ⟨g, 0, none⟩) n c) := hRw.cell HB.out (by simp)
    all_goals have hcm : W.cell? ⟨bm, 0, none⟩ = some (.map (some M)) := hRw.cell HM.out (by simp)
    all_goals have hcx : W.cell? ⟨g, i, none⟩ = some (.string x) := hRw.cell HCX.out (by simp)
    all_goals have hcy : W.cell? ⟨g, j, none⟩ = some (.string y) := hRw.cell HCY.out (by simp)
    all_goals have hMt := HMI.out.kept hRw (by simp)
    · refine ow_value (w' := W) (v := .map (some M)) ?_ (.mk hRr rfl rfl)
      simp [go_sem, p2, hcm]
    · refine ow_value (w' := W) (v := .slice (some ⟨g, 0, none⟩) n c) ?_ (.mk hRr rfl rfl)
      simp [go_sem, p3, hcb]
    · refine ow_value (w' := W) (v := .int .i64 i) ?_ (.mk hRr rfl rfl)
      simp [go_sem, p0]
    · have q1 : _ = _ := hd.1 rfl
      have q2 : _ = _ := hd.2.1 rfl
      refine ow_value (w' := W) (v := .pointer (some ⟨g, i, none⟩)) ?_ (.mk hRr rfl rfl)
      simp [go_sem, q1, q2, show ¬ n ≤ i by omega]
    · have q3 : _ = _ := hd.1 rfl
      refine ow_value (w' := W) (v := .string x) ?_ (.mk hRr rfl rfl)
      simp [go_sem, q3, hcx]
    · have q0 : _ = _ := hd.1 rfl
      have q4 : _ = _ := hd.2.1 rfl
      have hl := (MapIs.run_lookup (P := Tryz.prog) str9 Tryz.underlying262 hMt (z := .slice none 0 0) (Tryz.zeroValue269 W) x)
      rw [HX.out] at hl
      refine ow_value (w' := W) (v := .slice ax sx cx) ?_ (.mk hRr rfl rfl)
      simp [go_sem, q0, q4, hl]
    · have q5 : _ = _ := hd.1 rfl
      refine ow_value (w' := W) (v := .int .i64 sx) ?_ (.mk hRr rfl rfl)
      simp [go_sem, q5]
    · refine ow_value (w' := W) (v := .map (some M)) ?_ (.mk hRr rfl rfl)
      simp [go_sem, p2, hcm]
    · refine ow_value (w' := W) (v := .slice (some ⟨g, 0, none⟩) n c) ?_ (.mk hRr rfl rfl)
      simp [go_sem, p3, hcb]
    · refine ow_value (w' := W) (v := .int .i64 j) ?_ (.mk hRr rfl rfl)
      simp [go_sem, p1]
    · have q8 : _ = _ := hd.1 rfl
      have q9 : _ = _ := hd.2.1 rfl
      refine ow_value (w' := W) (v := .pointer (some ⟨g, j, none⟩)) ?_ (.mk hRr rfl rfl)
      simp [go_sem, q8, q9, show ¬ n ≤ j by omega]
    · have q10 : _ = _ := hd.1 rfl
      refine ow_value (w' := W) (v := .string y) ?_ (.mk hRr rfl rfl)
      simp [go_sem, q10, hcy]
    · have q7 : _ = _ := hd.1 rfl
      have q11 : _ = _ := hd.2.1 rfl
      have hl := (MapIs.run_lookup (P := Tryz.prog) str9 Tryz.underlying262 hMt (z := .slice none 0 0) (Tryz.zeroValue269 W) y)
      rw [HY.out] at hl
      refine ow_value (w' := W) (v := .slice ay sy cy) ?_ (.mk hRr rfl rfl)
      simp [go_sem, q7, q11, hl]
    · have q12 : _ = _ := hd.1 rfl
      refine ow_value (w' := W) (v := .int .i64 sy) ?_ (.mk hRr rfl rfl)
      simp [go_sem, q12]
    · have q6 : _ = _ := hd.1 rfl
      have q13 : _ = _ := hd.2.1 rfl
      refine ow_value (w' := W) (v := .int .i64 ((sx : Int) - sy)) ?_ (.mk hRr rfl rfl)
      simp [go_sem, q6, q13, hwr]
  · intro f W hR hf
    obtain ⟨f0, f1, f2, f3, f4, f5, f6, f7, f8, f9, f10, f11, f12, f13, f14, -⟩ := hf
    change f 8 = _ at f0
    change f 9 = _ at f1
    change f 10 = _ at f2
    change f 11 = _ at f3
    change f 12 = _ at f4
    change f 13 = _ at f5
    change f 14 = _ at f6
    change f 15 = _ at f7
    change f 16 = _ at f8
    change f 17 = _ at f9
    change f 18 = _ at f10
    change f 19 = _ at f11
    change f 20 = _ at f12
    change f 21 = _ at f13
    change f 22 = _ at f14
    simp only [headDsts, List.take_succ_cons, List.take_zero, List.filterMap_cons, List.filterMap_nil, setAll, f0, f1, f2, f3, f4, f5, f6, f7, f8, f9, f10, f11, f12, f13, f14, List.setIfInBounds_toArray, List.set_cons_succ, List.set_cons_zero, List.drop_succ_cons, List.drop_zero]
    clear f0 f1 f2 f3 f4 f5 f6 f7 f8 f9 f10 f11 f12 f13 f14 f
    have HR := Lib.hid hR
    clear hR
    go_wp2
    · have he : ((sx : Int) - sy == 0) = true := by assumption
      have HSE := Lib.hid (show sx = sy by have := (beq_iff_eq.1 he); omega)
      refine wp_region_facts' 9 (Kept []) (lm3F g n c i j M sx sy cx cy ax ay x y) mixed (by kernel_rfl) ((Kept.refl _ _).drew) (fun _ _ _ h k => h.trans0 k) lm3F_stable ?_ ?_
      · refine ⟨?_, ?_, ?_, ?_, ?_, ?_, ?_, ?_, ?_, trivial⟩
        all_goals go_light
        all_goals intro a W hR hs hd
        all_goals have p0 : a.tmps[0]? = some (.int .i64 i) := hs.2.2 0 (by decide)
        all_goals have p1 : a.tmps[1]? = some (.int .i64 j) := hs.2.2 1 (by decide)
        all_goals have p2 : a.tmps[2]? = some (.pointer (some ⟨bm, 0, none⟩)) := hs.2.2 2 (by decide)
        all_goals have p3 : a.tmps[3]? = some (.pointer (some ⟨b, 0, none⟩)) := hs.2.2 3 (by decide)
        all_goals have hRr : Kept [] W W := Kept.refl [] W
        all_goals have hRw := HR.out.trans0 hR
        all_goals have hcb : W.cell? ⟨b, 0, none⟩ = some (.slice (some ⟨g, 0, none⟩) n c) := hRw.cell HB.out (by simp)
        all_goals have hcm : W.cell? ⟨bm, 0, none⟩ = some (.map (some M)) := hRw.cell HM.out (by simp)
        all_goals have hcx : W.cell? ⟨g, i, none⟩ = some (.string x) := hRw.cell HCX.out (by simp)
        all_goals have hcy : W.cell? ⟨g, j, none⟩ = some (.string y) := hRw.cell HCY.out (by simp)
        all_goals have hMt := HMI.out.kept hRw (by simp)
        · refine ow_value (w' := W) (v := .slice (some ⟨g, 0, none⟩) n c) ?_ (.mk hRr rfl rfl)
          simp [go_sem, p3, hcb]
        · refine ow_value (w' := W) (v := .int .i64 i) ?_ (.mk hRr rfl rfl)
          simp [go_sem, p0]
        · have q0 : _ = _ := hd.1 rfl
          have q1 : _ = _ := hd.2.1 rfl
          refine ow_value (w' := W) (v := .pointer (some ⟨g, i, none⟩)) ?_ (.mk hRr rfl rfl)
          simp [go_sem, q0, q1, show ¬ n ≤ i by omega]
        · have q2 : _ = _ := hd.1 rfl
          refine ow_value (w' := W) (v := .string x) ?_ (.mk hRr rfl rfl)
          simp [go_sem, q2, hcx]
        · refine ow_value (w' := W) (v := .slice (some ⟨g, 0, none⟩) n c) ?_ (.mk hRr rfl rfl)
          simp [go_sem, p3, hcb]
        · refine ow_value (w' := W) (v := .int .i64 j) ?_ (.mk hRr rfl rfl)
          simp [go_sem, p1]
        · have q4 : _ = _ := hd.1 rfl
          have q5 : _ = _ := hd.2.1 rfl
          refine ow_value (w' := W) (v := .pointer (some ⟨g, j, none⟩)) ?_ (.mk hRr rfl rfl)
          simp [go_sem, q4, q5, show ¬ n ≤ j by omega]
        · have q6 : _ = _ := hd.1 rfl
          refine ow_value (w' := W) (v := .string y) ?_ (.mk hRr rfl rfl)
          simp [go_sem, q6, hcy]
        · have q3 : _ = _ := hd.1 rfl
          have q7 : _ = _ := hd.2.1 rfl
          refine ow_value (w' := W) (v := .bool (slt x y)) ?_ (.mk hRr rfl rfl)
          simp [go_sem, q3, q7, bytesLess_slt2]
      · intro f W hR hf
        obtain ⟨f0, f1, f2, f3, f4, f5, f6, f7, f8, -⟩ := hf
        change f 25 = _ at f0
        change f 26 = _ at f1
        change f 27 = _ at f2
        change f 28 = _ at f3
        change f 29 = _ at f4
        change f 30 = _ at f5
        change f 31 = _ at f6
        change f 32 = _ at f7
        change f 33 = _ at f8
        simp only [headDsts, List.take_succ_cons, List.take_zero, List.filterMap_cons, List.filterMap_nil, setAll, f0, f1, f2, f3, f4, f5, f6, f7, f8, List.setIfInBounds_toArray, List.set_cons_succ, List.set_cons_zero, List.drop_succ_cons, List.drop_zero]
        clear f0 f1 f2 f3 f4 f5 f6 f7 f8 f
        have HR2 := Lib.hid (HR.out.trans0 hR)
        clear hR
        go_wp2
        go_ret
        exact ⟨by rw [← HRR.out, if_pos HSE.out]; rfl, HR2.out⟩
    · have he : ((sx : Int) - sy == 0) = false := by assumption
      have HSE := Lib.hid (show ¬ sx = sy by have := (beq_eq_false_iff_ne.1 he); omega)
      refine wp_region_facts' 15 (Kept []) (lm4F g n c i j M sx sy cx cy ax ay x y) mixed (by kernel_rfl) ((Kept.refl _ _).drew) (fun _ _ _ h k => h.trans0 k) lm4F_stable ?_ ?_
      · refine ⟨?_, ?_, ?_, ?_, ?_, ?_, ?_, ?_, ?_, ?_, ?_, ?_, ?_, ?_, ?_, trivial⟩
        all_goals go_light
        all_goals intro a W hR hs hd
        all_goals have p0 : a.tmps[0]? = some (.int .i64 i) := hs.2.2 0 (by decide)
        all_goals have p1 : a.tmps[1]? = some (.int .i64 j) := hs.2.2 1 (by decide)
        all_goals have p2 : a.tmps[2]? = some (.pointer (some ⟨bm, 0, none⟩)) := hs.2.2 2 (by decide)
        all_goals have p3 : a.tmps[3]? = some (.pointer (some ⟨b, 0, none⟩)) := hs.2.2 3 (by decide)
        all_goals have hRr : Kept [] W W := Kept.refl [] W
        all_goals have hRw := HR.out.trans0 hR
        all_goals have hcb : W.cell? ⟨b, 0, none⟩ = some (.slice (some ⟨g, 0, none⟩) n c) := hRw.cell HB.out (by simp)
        all_goals have hcm : W.cell? ⟨bm, 0, none⟩ = some (.map (some M)) := hRw.cell HM.out (by simp)
        all_goals have hcx : W.cell? ⟨g, i, none⟩ = some (.string x) := hRw.cell HCX.out (by simp)
        all_goals have hcy : W.cell? ⟨g, j, none⟩ = some (.string y) := hRw.cell HCY.out (by simp)
        all_goals have hMt := HMI.out.kept hRw (by simp)
        · refine ow_value (w' := W) (v := .map (some M)) ?_ (.mk hRr rfl rfl)
          simp [go_sem, p2, hcm]
        · refine ow_value (w' := W) (v := .slice (some ⟨g, 0, none⟩) n c) ?_ (.mk hRr rfl rfl)
          simp [go_sem, p3, hcb]
        · refine ow_value (w' := W) (v := .int .i64 i) ?_ (.mk hRr rfl rfl)
          simp [go_sem, p0]
        · have q1 : _ = _ := hd.1 rfl
          have q2 : _ = _ := hd.2.1 rfl
          refine ow_value (w' := W) (v := .pointer (some ⟨g, i, none⟩)) ?_ (.mk hRr rfl rfl)
          simp [go_sem, q1, q2, show ¬ n ≤ i by omega]
        · have q3 : _ = _ := hd.1 rfl
          refine ow_value (w' := W) (v := .string x) ?_ (.mk hRr rfl rfl)
          simp [go_sem, q3, hcx]
        · have q0 : _ = _ := hd.1 rfl
          have q4 : _ = _ := hd.2.1 rfl
          have hl := (MapIs.run_lookup (P := Tryz.prog) str9 Tryz.underlying262 hMt (z := .slice none 0 0) (Tryz.zeroValue269 W) x)
          rw [HX.out] at hl
          refine ow_value (w' := W) (v := .slice ax sx cx) ?_ (.mk hRr rfl rfl)
          simp [go_sem, q0, q4, hl]
        · have q5 : _ = _ := hd.1 rfl
          refine ow_value (w' := W) (v := .int .i64 sx) ?_ (.mk hRr rfl rfl)
          simp [go_sem, q5]
        · refine ow_value (w' := W) (v := .map (some M)) ?_ (.mk hRr rfl rfl)
          simp [go_sem, p2, hcm]
        · refine ow_value (w' := W) (v := .slice (some ⟨g, 0, none⟩) n c) ?_ (.mk hRr rfl rfl)
          simp [go_sem, p3, hcb]
        · refine ow_value (w' := W) (v := .int .i64 j) ?_ (.mk hRr rfl rfl)
          simp [go_sem, p1]
        · have q8 : _ = _ := hd.1 rfl
          have q9 : _ = _ := hd.2.1 rfl
          refine ow_value (w' := W) (v := .pointer (some ⟨g, j, none⟩)) ?_ (.mk hRr rfl rfl)
          simp [go_sem, q8, q9, show ¬ n ≤ j by omega]
        · have q10 : _ = _ := hd.1 rfl
          refine ow_value (w' := W) (v := .string y) ?_ (.mk hRr rfl rfl)
          simp [go_sem, q10, hcy]
        · have q7 : _ = _ := hd.1 rfl
          have q11 : _ = _ := hd.2.1 rfl
          have hl := (MapIs.run_lookup (P := Tryz.prog) str9 Tryz.underlying262 hMt (z := .slice none 0 0) (Tryz.zeroValue269 W) y)
          rw [HY.out] at hl
          refine ow_value (w' := W) (v := .slice ay sy cy) ?_ (.mk hRr rfl rfl)
          simp [go_sem, q7, q11, hl]
        · have q12 : _ = _ := hd.1 rfl
          refine ow_value (w' := W) (v := .int .i64 sy) ?_ (.mk hRr rfl rfl)
          simp [go_sem, q12]
        · have q6 : _ = _ := hd.1 rfl
          have q13 : _ = _ := hd.2.1 rfl
          refine ow_value (w' := W) (v := .bool (decide (sx < sy))) ?_ (.mk hRr rfl rfl)
          simp [go_sem, q6, q13]
      · intro f W hR hf
        obtain ⟨f0, f1, f2, f3, f4, f5, f6, f7, f8, f9, f10, f11, f12, f13, f14, -⟩ := hf
        change f 34 = _ at f0
        change f 35 = _ at f1
        change f 36 = _ at f2
        change f 37 = _ at f3
        change f 38 = _ at f4
        change f 39 = _ at f5
        change f 40 = _ at f6
        change f 41 = _ at f7
        change f 42 = _ at f8
        change f 43 = _ at f9
        change f 44 = _ at f10
        change f 45 = _ at f11
        change f 46 = _ at f12
        change f 47 = _ at f13
        change f 48 = _ at f14
        simp only [headDsts, List.take_succ_cons, List.take_zero, List.filterMap_cons, List.filterMap_nil, setAll, f0, f1, f2, f3, f4, f5, f6, f7, f8, f9, f10, f11, f12, f13, f14, List.setIfInBounds_toArray, List.set_cons_succ, List.set_cons_zero, List.drop_succ_cons, List.drop_zero]
        clear f0 f1 f2 f3 f4 f5 f6 f7 f8 f9 f10 f11 f12 f13 f14 f
        have HR2 := Lib.hid (HR.out.trans0 hR)
        clear hR
        go_wp2
        go_ret
        exact ⟨by rw [← HRR.out, if_neg HSE.out]; rfl, HR2.out⟩
end Go.Proofs.YtghgffhcdnmpnaaGreat
/-
  The sticky strategies' sort of members. Conditions: every name has an entry in the map; no list is longer than a thousand million.
-/
namespace Go.Proofs.YtghgffhcdnmpnaaGreat
open Go.RowKit Go.Sort
/-- By the number of what they have, then by name. -/
def mlt (sz : ByteArray → Nat) (x y : ByteArray) : Bool := if sz x = sz y then slt x y else decide (sz x < sz y)
theorem ordB_mlt (sz : ByteArray → Nat) : OrdB (mlt sz) where
  asymm x y h := by
    unfold mlt at h ⊢
    by_cases he : sz x = sz y
    · rw [if_pos he] at h
      rw [if_pos he.symm]
      exact (ordB_key id).asymm x y h
    · rw [if_neg he] at h
      rw [if_neg (Ne.symm he)]
      simp only [decide_eq_true_eq] at h
      simp only [decide_eq_false_iff_not]
      omega
  trans a b c h1 h2 := by
    unfold mlt at *
    by_cases e1 : sz b = sz a
    · rw [if_pos e1] at h1
      by_cases e2 : sz c = sz b
      · rw [if_pos e2] at h2
        rw [if_pos (e2.trans e1)]
        exact (ordB_key id).trans a b c h1 h2
      · rw [if_neg e2] at h2
        rw [if_neg (by omega)]
        simp only [decide_eq_false_iff_not] at *
        omega
    · rw [if_neg e1] at h1
      by_cases e2 : sz c = sz b
      · rw [if_neg (by omega)]
        simp only [decide_eq_false_iff_not] at *
        omega
      · rw [if_neg e2] at h2
        simp only [decide_eq_false_iff_not] at h1 h2
        rw [if_neg (by omega)]
        simp only [decide_eq_false_iff_not]
        omega
/-- Every name has a list of that length. -/
def Sized (m : List (ByteArray × Value)) (sz : ByteArray → Nat) (l : List ByteArray) : Prop := ∀ k ∈ l, ∃ A c, mget m k = some (.slice A (sz k) c) ∧ sz k ≤ 1000000000
set_option maxRecDepth 100000 in
theorem sortMem (g n c b bm M : Nat) (sz : ByteArray → Nat) (l : List ByteArray) (m : List (ByteArray × Value)) (w : World) (hb : w.cell? ⟨b, 0, none⟩ = some (.slice (some ⟨g, 0, none⟩) n c)) (hbg : b ≠ g) (hm : w.cell? ⟨bm, 0, none⟩ = some (.map (some M))) (hmg : bm ≠ g) (hM : MapIs Value.string w M m) (hMg : M ≠ g)
    (h : w.ownsRow 0 9 1 (.slice (some ⟨g, 0, none⟩) n c) n (strs l)) (hsz : Sized m sz l) (hn : n ≤ 1000000) :
    Calls Tryz.prog 171 #[.int .i64 n, .func (.func 210) #[] #[.pointer (some ⟨b, 0, none⟩)], .func (.func 211) #[] #[.pointer (some ⟨bm, 0, none⟩), .pointer (some ⟨b, 0, none⟩)]] w fun e w' => e = .returned (.tuple #[]) ∧ ∃ l', l'.Perm l ∧ l'.Pairwise (fun p q => mlt sz q p = false) ∧ w'.ownsRow 0 9 1 (.slice (some ⟨g, 0, none⟩) n c) n (strs l') ∧ Kept [g] w w' := by
  have hln : l.length = n := by have := h.1; simpa [strs] using this
  refine (zzSort_any (ordB_mlt sz) 210 211 #[.pointer (some ⟨b, 0, none⟩)] #[.pointer (some ⟨bm, 0, none⟩), .pointer (some ⟨b, 0, none⟩)] (fun l1 W => Sized m sz l1 ∧ W.ownsRow 0 9 1 (.slice (some ⟨g, 0, none⟩) n c) n (strs l1) ∧ Kept [g] w W) (fun _ _ => rfl) (fun _ _ => rfl) ?_ ?_ l n hln w ⟨hsz, h, Kept.refl _ _⟩ hn).mono ?_
  · rintro l1 W i j x y ⟨h1, h2, h3⟩ hx hy
    obtain ⟨ax, cx, gx, bx⟩ := h1 x (List.mem_of_getElem? hx)
    obtain ⟨ay, cy, gy, by'⟩ := h1 y (List.mem_of_getElem? hy)
    refine (less211_any g n c b bm M i j (sz x) (sz y) cx cy ax ay l1 m x y W (h3.cell hb (by simpa using hbg)) (h3.cell hm (by simpa using hmg)) (hM.kept h3 (by simpa using hMg)) h2 hx hy gx gy hn bx by').mono ?_
    rintro e w' ⟨he, hk⟩
    exact ⟨he, h1, own_kept0 h2 hk, h3.trans0 hk⟩
  · rintro l1 W i j x y ⟨h1, h2, h3⟩ hx hy _
    refine (swap210_any g n c b i j l1 x y W (h3.cell hb (by simpa using hbg)) hbg h2 hx hy hn).mono ?_
    rintro e w' ⟨he, hr, hk⟩
    exact ⟨he, fun p hp => h1 p (mem_swap hx hy p hp), hr, h3.trans hk (fun x hx => .inl hx)⟩
  · rintro e w' ⟨he, l', hp, hs, h1, h2, h3⟩
    exact ⟨he, l', hp, hs, h2, h3⟩
end Go.Proofs.YtghgffhcdnmpnaaGreat
/-
  The members in order of what they have (197). Conditions: every name has an entry with a list; at most a hundred members.
-/
namespace Go.Proofs.YtghgffhcdnmpnaaGreat
open Go.RowKit Go.Sort
set_option maxRecDepth 100000 in
theorem wl_make9 {ops : Array Oper} {Q : Exit → Act → World → Prop} {o : Oper} {rest : List Oper} {a : Act} {w : World} (hg : o.guard = none) (x : Operand) (hop : o.op = Op.makeSlice 44 (.const (.int .i64 0)) x) (n : Nat) (hn : n ≤ 1000000) (hx : a.eval x = .int .i64 n)
    (h : wpList Tryz.prog ops Q rest (a.put o.dst (.slice (some ⟨w.heap.size, 0, none⟩) 0 n)) (w.alloc (.cells (madeCells (Value.string ByteArray.empty).cells n) 9))) : wpList Tryz.prog ops Q (o :: rest) a w := by
  have k1 : (Tryz.prog.info? 9).map (fun i => (i.size, i.bytes)) = some (1, 16) := by kernel_rfl
  have k2 : (Tryz.prog.info? 9).bind (fun i => i.zero) = some (.string ByteArray.empty) := by kernel_rfl
  obtain ⟨i, h1⟩ : ∃ i, Tryz.prog.info? 9 = some i := by
    cases hq : Tryz.prog.info? 9 with
    | none => rw [hq] at k1; cases k1
    | some i => exact ⟨i, rfl⟩
  rw [h1] at k1 k2
  have h2 : i.zero = some (.string ByteArray.empty) := k2
  have h34 : (i.size, i.bytes) = (1, 16) := Option.some.inj k1
  have h3 : i.size = 1 := congrArg Prod.fst h34
  have h4 : i.bytes = 16 := congrArg Prod.snd h34
  have hr := run_makeSlice (P := Tryz.prog) w 44 9 i _ Tryz.underlying44 h1 h2 .i64 .i64 0 n (by omega) (by omega) (by rw [h3]; simp; omega) (by rw [h4]; omega) (by omega)
  simp only [Int.toNat_zero, Int.toNat_natCast] at hr
  refine wpList_plain hg fun K hK => ?_
  unfold Oper.wp execOp
  have hc : a.eval (.const (.int .i64 0)) = .int .i64 0 := rfl
  simp only [hop, hx, hc, Sem.run_bind, hr, Result.andThen_ok, Sem.run_pure]
  rw [h3, Nat.mul_one]
  exact hK _ _ h
theorem heap3 (w : World) (a b c : Obj) : (((w.alloc a).alloc b).alloc c).heap[w.heap.size]? = some a ∧ (((w.alloc a).alloc b).alloc c).heap[w.heap.size + 1]? = some b ∧ (((w.alloc a).alloc b).alloc c).heap[w.heap.size + 2]? = some c ∧ (((w.alloc a).alloc b).alloc c).heap.size = w.heap.size + 3 := by
  have h1 : (w.alloc a).heap.size = w.heap.size + 1 := by simp
  have h2 : ((w.alloc a).alloc b).heap.size = w.heap.size + 2 := by simp
  refine ⟨?_, ?_, ?_, by simp⟩
  · rw [Below.heap_alloc _ _ _ (by omega), Below.heap_alloc _ _ _ (by omega), heap_alloc_new]
  · rw [Below.heap_alloc _ _ _ (by omega), ← h1, heap_alloc_new]
  · rw [← h2, heap_alloc_new]
theorem own_iter_ne {κ : Type} {enc : κ → Value} {w : World} {base : Nat} {e : TypeId} {s n : Nat} {v : Value} {xs : List Value} {r b : Nat} {m : List (κ × Value)} {done : List Nat} (h : w.ownsRow base e s v n xs) (hI : IterIs enc w r b m done) : ∀ g, v.ownBlock = some g → g ∉ [r] := by
  intro g hg hm
  obtain rfl := List.mem_singleton.1 hm
  obtain ⟨_, _, _, es, cl, seen, c0, hb, hs, he, hr, _⟩ := hI
  rcases h.2 with ⟨rfl, _⟩ | ⟨g', cap, cur, rfl, _, hh, _⟩
  · cases hg
  · have : g' = g := by simpa [Value.ownBlock] using hg
    subst this
    rw [hr] at hh
    cases hh
set_option maxRecDepth 100000 in
set_option maxHeartbeats 3200000 in
theorem sortIds_any (M : Nat) (m : List (ByteArray × Value)) (sz : ByteArray → Nat) (w : World) (hM : MapIs Value.string w M m) (hs : Sized m sz (m.map Prod.fst)) (hn : m.length ≤ 100) :
    Calls Tryz.prog 197 #[.map (some M)] w fun e w' => ∃ v l', e = .returned v ∧ l'.Perm (m.map Prod.fst) ∧ l'.Pairwise (fun p q => mlt sz q p = false) ∧ w'.ownsRow w.heap.size 9 1 v l'.length (strs l') ∧ Kept [] w w' := by
  have HM := Lib.hid hM
  have HS := Lib.hid hs
  have hblt := hM.lt
  obtain ⟨z, hz⟩ : ∃ z, w.heap.size = z := ⟨_, rfl⟩
  have HZ := Lib.hid hz
  rw [hz] at hblt
  clear hM hs hz
  go_enter Tryz.func197, Tryz.ntmps197
  go_wp2_with (first
    | (refine wl_len_map rfl _ 262 9 269 rfl Tryz.underlying262 M m rfl (HM.out.alloc _) ?_)
    | (refine wl_make9 rfl _ rfl m.length (by omega) rfl ?_)
    | (refine wl_range rfl _ 262 rfl 9 269 Tryz.underlying262 M m rfl (((HM.out.alloc _).alloc _).alloc _) ?_; intro w1 hI hk1 hs1; have HI := Lib.hid hI; have HK1 := Lib.hid hk1; have HS1 := Lib.hid hs1; clear hI hk1 hs1))
  simp only [Act.put, List.setIfInBounds_toArray, List.set_cons_succ, List.set_cons_zero]
  obtain ⟨W3, hW3⟩ : ∃ W3, (((w.alloc (Obj.cells #[Value.map (some M)] 262)).alloc (Obj.cells (madeCells #[Value.string ByteArray.empty] m.length) 9)).alloc (Obj.cells #[Value.slice (some { block := w.heap.size + 1, off := 0 }) 0 m.length] 44)) = W3 := ⟨_, rfl⟩
  have hs3 : W3.heap.size = z + 3 := by rw [← hW3, ← HZ.out]; exact (heap3 w _ _ _).2.2.2
  have hb0 : W3.heap[z]? = some (.cells #[Value.map (some M)] 262 (0, 0)) := by
    rw [← hW3, ← HZ.out]
    exact (heap3 w _ _ _).1
  have hb2 : W3.heap[z + 2]? = some (.cells #[Value.slice (some ⟨z + 1, 0, none⟩) 0 m.length] 44 (0, 0)) := by
    rw [← hW3, ← HZ.out]
    exact (heap3 w _ _ _).2.2.1
  have hrow : W3.ownsRow (z + 1) 9 1 (.slice (some ⟨z + 1, 0, none⟩) 0 m.length) 0 [] := by
    rw [← hW3]
    have hz1 : (w.alloc (Obj.cells #[Value.map (some M)] 262)).heap.size = z + 1 := by rw [← HZ.out]; simp
    have := World.ownsRow_made (base := z + 1) (e := 9) (size := 1) (w.alloc (Obj.cells #[Value.map (some M)] 262)) (madeCells #[Value.string ByteArray.empty] m.length) m.length (by omega) (by simp [maxLen]; omega) (by rw [size_madeCells]; omega)
    rw [hz1] at this
    exact own_kept0 this ((Kept.refl _ _).alloc _)
  have hk3 : Kept [] w W3 := by rw [← hW3]; exact (((Kept.refl _ _).alloc _).alloc _).alloc _
  rw [hW3] at HI HK1 HS1 ⊢
  rw [hs3]
  have hm3 : MapIs Value.string W3 M m := HM.out.kept hk3 (by simp)
  have HI0 : Hid (IterIs Value.string w1 (z + 3) M m []) := by rw [← hs3]; exact HI
  have HB0 := Lib.hid (HK1.out.heap hb0 (by simp))
  have HB2 := Lib.hid (HK1.out.heap hb2 (by simp))
  have HR0 := Lib.hid (own_kept0 hrow HK1.out)
  have HKW := Lib.hid (hk3.trans0 HK1.out)
  rw [HZ.out, show z + 1 + 1 = z + 2 from rfl]
  clear HI HK1 HS1 hW3 hb0 hb2 hrow hk3 hs3 hm3
  clear W3
  have hl5 : ((m.map Prod.fst).length : Nat) = m.length := by simp
  go_loopg [4] m.length (fun k _ wr => ∃ (done : List Nat) (g c : Nat), k = m.length - done.length ∧ IterIs Value.string wr (z + 3) M m done ∧ wr.heap[z + 2]? = some (.cells #[.slice (some ⟨g, 0, none⟩) (walked (m.map Prod.fst) done).length c] 44 (0, 0)) ∧ wr.heap[z]? = some (.cells #[.map (some M)] 262 (0, 0)) ∧ wr.ownsRow (z + 1) 9 1 (.slice (some ⟨g, 0, none⟩) (walked (m.map Prod.fst) done).length c) (walked (m.map Prod.fst) done).length (strs (walked (m.map Prod.fst) done)) ∧ Kept [] w wr)
  case atStart => exact ⟨[], _, _, rfl, HI0.out, HB2.out, HB0.out, HR0.out, HKW.out⟩
  case round =>
    obtain ⟨done, g, c, hk, hI, hzc, hzm, hrow, hkr⟩ := hrel
    have HI1 := Lib.hid hI
    have HZC := Lib.hid hzc
    have HZM := Lib.hid hzm
    have HROW := Lib.hid hrow
    have HKR := Lib.hid hkr
    have hdl := hI.left
    have hz3 : z + 3 < wr.heap.size := HI1.out.lt
    clear hI hzc hzm hrow hkr
    obtain ⟨l, hl⟩ : ∃ l, walked (m.map Prod.fst) done = l := ⟨_, rfl⟩
    have hll : l.length ≤ done.length := by rw [← hl]; exact List.length_filterMap_le _ _
    rw [hl] at HROW HZC
    have HL := Lib.hid hl
    clear hl
    by_cases hd : done.length < m.length
    · go_wp2_with (first
        | (refine wl_next rfl _ rfl (z + 3) M m done rfl HI1.out (fun e => absurd e (by omega)) ?_; intro i p w2 hp hi hI2 hK2 hs2; obtain ⟨t, u⟩ := p; have HI2 := Lib.hid hI2; have HK2 := Lib.hid hK2; have HP := Lib.hid hp; have HS2 := Lib.hid hs2; have HZC2 := Lib.hid (hK2.heap HZC.out (by simp)); have hcz : w2.cell? ⟨z + 2, 0, none⟩ = some (.slice (some ⟨g, 0, none⟩) l.length c) := (by simp [World.cell?, HZC2.out]); have HROW2 := Lib.hid (hK2.own HROW.out (own_iter_ne HROW.out HI1.out)); clear hI2 hK2 hp hi hs2)
        | (refine wl_entry rfl _ rfl (z + 3) M m done i _ rfl HI2.out HP.out ?_)
        | (at_builtin; refine wl_append rfl _ _ 44 rfl (z + 1) 9 Tryz.underlying44 info9 rfl (by decide) (.slice (some ⟨g, 0, none⟩) l.length c) l.length _ rfl (own_kept0 HROW2.out ((Kept.refl _ _).alloc _)) _ 1 1 [.string t] rfl (own_slis (own_new w2 9 1 1 #[.string t] 0 (Nat.zero_le _) (by omega) rfl rfl)) (by simp [Value.oneCell']) (by omega) (by omega) (by have := HS2.out; simp; omega) ?_; intro v4 w4 hown hk4 _; obtain ⟨A4, c4, rfl⟩ := own_form hown; obtain ⟨g4, rfl⟩ := own_row hown (Nat.succ_pos _); have HO4 := Lib.hid hown; have HK4 : Hid (Kept [g] (w2.alloc (.cells #[.string t] 9)) w4) := hk4; have HZ4 := Lib.hid (HK4.out.heap (((Kept.refl [] w2).alloc (.cells #[.string t] 9)).heap HZC2.out (by simp)) (fun hm => own_cells_ne HROW2.out HZC2.out (by decide) g rfl (List.mem_singleton.2 (List.mem_singleton.1 hm).symm))); have hc4 : w4.cell? ⟨z + 2, 0, none⟩ = some (.slice (some ⟨g, 0, none⟩) l.length c) := (by simp [World.cell?, HZ4.out]); have hf4 : w4.frozen? ⟨z + 2, 0, none⟩ = false := (by simp [World.frozen?, HZ4.out]); clear hown hk4))
      have hp := HP.out
      have hpt : (m.map Prod.fst)[i]? = some t := by rw [List.getElem?_map, hp]; rfl
      have hgz : g ≠ z + 3 := fun e => own_iter_ne HROW2.out HI2.out g rfl (List.mem_singleton.2 e)
      have hgM : g ≠ M := own_map_ne HROW2.out HI2.out.map g rfl
      have hgz0 : g ≠ z := fun e => own_cells_ne HROW2.out (HK2.out.heap HZM.out (by simp)) (by decide) g rfl (List.mem_singleton.2 e)
      have hMlt := HI2.out.map.lt
      have hK5 : Kept [g, z + 2] w2 (w4.setCell ⟨z + 2, 0, none⟩ (Value.slice (some ⟨g4, 0, none⟩) (l.length + 1) c4)) := (((Kept.refl [] w2).alloc _).mono (by simp) |>.trans HK4.out (fun x hx => .inl (by simp at hx; simp [hx]))).setCell (.inl (by simp)) _
      have hMz : M ≠ z + 2 := fun e => by
        obtain ⟨es, cl, hb, _⟩ := HI2.out.map
        rw [e, HZC2.out] at hb
        cases hb
      have HK5 := Lib.hid hK5
      have HZ5 := Lib.hid (heap_setCell_same w4 (z + 2) 0 _ 44 (Value.slice (some ⟨g4, 0, none⟩) (l.length + 1) c4) HZ4.out)
      have HO5 := Lib.hid (((Kept.refl [z + 2] w4).setCell (p := ⟨z + 2, 0, none⟩) (.inl (by simp)) (Value.slice (some ⟨g4, 0, none⟩) (l.length + 1) c4)).own HO4.out (own_cells_ne HO4.out HZ4.out (by decide)))
      clear hc4 hf4 hK5 hcz
      go_roundg (m.length - (done ++ [i]).length)
      case measure =>
        rw [List.length_append]
        simp only [List.length_cons, List.length_nil]
        omega
      case rel =>
        have hw : walked (m.map Prod.fst) (done ++ [i]) = l ++ [t] := by rw [walked_snoc hpt, HL.out]
        refine ⟨done ++ [i], g4, c4, rfl, HI2.out.kept HK5.out (by simp; omega) (by simp; omega), ?_, HK5.out.heap (HK2.out.heap HZM.out (by simp)) (by simp; omega), ?_, (HKR.out.trans (HK2.out) (fun x hx => .inr (by have h1 := List.mem_singleton.1 hx; have h2 := HZ.out; omega))).trans HK5.out (fun x hx => .inr (by have h1 := own_ge HROW2.out g rfl; have h2 := HZ.out; simp at hx; omega))⟩
        · rw [hw]
          have h1 := HZ5.out
          simpa using h1
        · rw [hw]
          have h1 := HO5.out
          simpa [strs] using h1
    · have hde : done.length = m.length := by omega
      have hidn := HI1.out.2.1
      have hidl := HI1.out.2.2.1
      have hperm : (walked (m.map Prod.fst) done).Perm (m.map Prod.fst) := walked_perm hidn (fun i hi => by have := hidl i hi; simpa using this) (by simpa using hde)
      rw [HL.out] at hperm
      have hlm : l.length = m.length := by rw [hperm.length_eq, List.length_map]
      have HPERM := Lib.hid hperm
      rw [hlm] at HROW HZC
      have hcz : wr.cell? ⟨z + 2, 0, none⟩ = some (.slice (some ⟨g, 0, none⟩) m.length c) := by simp [World.cell?, HZC.out]
      have hgM : g ≠ M := own_map_ne HROW.out HI1.out.map g rfl
      have hgz0 : g ≠ z := fun e => own_cells_ne HROW.out HZM.out (by decide) g rfl (List.mem_singleton.2 e)
      have hgz2 : g ≠ z + 2 := fun e => own_cells_ne HROW.out HZC.out (by decide) g rfl (List.mem_singleton.2 e)
      have hsz : Sized m sz l := fun k hk => HS.out k (hperm.mem_iff.1 hk)
      have HSORT := Lib.hid (sortMem g m.length c (z + 2) z M sz l m wr hcz (fun e => hgz2 e.symm) (by simp [World.cell?, HZM.out]) (fun e => hgz0 e.symm) HI1.out.map (fun e => hgM e.symm) (own_mono HROW.out (Nat.zero_le _)) hsz (by omega))
      have hmf : ∀ (fn : Fn) (first cap : Array Value) (w : World), (Instr.makeFunc fn first cap).run Tryz.prog w = .ok (.func fn first cap) w := fun _ _ _ _ => rfl
      clear hidn hidl hperm hsz hgM hgz0
      go_wp2_with (first
        | (refine wl_next rfl _ rfl (z + 3) M m done rfl HI1.out (fun _ => ?_) (fun i p w2 hp hi hI2 hK2 hs2 => absurd hI2.left (by rw [List.length_append]; simp only [List.length_cons, List.length_nil]; omega)))
        | ((with_reducible refine HSORT.out.mono ?_); rintro e w2 ⟨rfl, l1, hl1, hl2, hrow2, hk2⟩; have HL1 := Lib.hid hl1; have HL2 := Lib.hid hl2; have HROW2 := Lib.hid hrow2; have HK2 := Lib.hid hk2; have hcz2 : w2.cell? ⟨z + 2, 0, none⟩ = some (.slice (some ⟨g, 0, none⟩) m.length c) := hk2.cell hcz (by simp; omega); clear hl1 hl2 hrow2 hk2))
      go_ret
      have hgge := own_ge HROW.out g rfl
      refine ⟨_, l1, rfl, HL1.out.trans HPERM.out, HL2.out, ?_, HKR.out.trans HK2.out (fun x hx => .inr (by have h1 := List.mem_singleton.1 hx; have h2 := HZ.out; omega))⟩
      have h1 := own_rebase HROW2.out (base' := z + 1) (fun g' hg' => by cases hg'; exact hgge)
      rw [HL1.out.length_eq, hlm]
      exact own_mono h1 (by have := HZ.out; omega)
end Go.Proofs.YtghgffhcdnmpnaaGreat
