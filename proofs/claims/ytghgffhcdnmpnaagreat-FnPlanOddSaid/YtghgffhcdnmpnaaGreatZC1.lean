/-
  Contracts of small functions of the thin package: slices.Clone, copied, (Member).metadata. Each leaves all memory that was there. Conditions: a member's data and what it owns are empty; lists fit the model's room.
-/
import Derived.Test.YtghgffhcdnmpnaaGreatZB0
import Derived.Test.YtghgffhcdnmpnaaGreatZShelf
import Derived.WalkSpells
import Derived.WalkLawsBesides
import Derived.Outline
import Derived.Deep.Light
import Derived.Deep.LoopGhost
import Derived.IntWalk
namespace Go.Proofs.YtghgffhcdnmpnaaGreat
open Go.RowKit
theorem info9 : (Tryz.prog.info? 9).map (fun i => (i.zero, i.size, i.bytes)) = some (some (.string ⟨#[]⟩), 1, 16) := by kernel_rfl
theorem info21 : (Tryz.prog.info? 21).map (fun i => (i.zero, i.size, i.bytes)) = some (some (.int .i32 0), 1, 4) := by kernel_rfl
theorem info5 : (Tryz.prog.info? 5).map (fun i => (i.zero, i.size, i.bytes)) = some (some (.int .u8 0), 1, 1) := by kernel_rfl
theorem mixed : Tryz.prog.follows .mixedOrders = true := by kernel_rfl
theorem sl_nil_len {w : World} {s n : Nat} {xs : List Value} (h : SlIs w s none n xs) : n = 0 ∧ xs = [] := by
  have hm : n = 0 := by
    rcases Nat.eq_zero_or_pos n with h' | h'
    · exact h'
    · obtain ⟨b, off, h, _⟩ := h.2.2 h'
      cases h
  subst hm
  exact ⟨rfl, List.eq_nil_of_length_eq_zero (by simpa using h.1)⟩

/-- append of nothing to nil. -/
theorem append_none (t e : TypeId) (ht : Tryz.prog.underlying t = some (.slice e)) {z : Value} {s bytes : Nat} (hinfo : (Tryz.prog.info? e).map (fun i => (i.zero, i.size, i.bytes)) = some (some z, s, bytes)) (A : Option Addr) (c : Nat) :
    ∀ W, (Builtin.append_ #[t, t] t #[.slice none 0 0, .slice A 0 c]).run Tryz.prog W = .ok (.slice none 0 0) W := by
  obtain ⟨i0, hi, hz0, hz1, hz2⟩ := info_parts hinfo
  intro W
  cases A <;> simp [Builtin.append_, run_underlying ht, sizeOf, typeInfo, hi, Builtin.lenOf, Builtin.firstCells, loadCells, loadCellsFrom]

theorem own_mono {w : World} {base base' : Nat} {e : TypeId} {s n : Nat} {v : Value} {xs : List Value} (h : w.ownsRow base e s v n xs) (hb : base' ≤ base) : w.ownsRow base' e s v n xs := by
  refine ⟨h.1, ?_⟩
  rcases h.2 with h2 | ⟨g, cap, cur, hv, hg, r⟩
  · exact .inl h2
  · exact .inr ⟨g, cap, cur, hv, by omega, r⟩
theorem own_form {w : World} {base : Nat} {e : TypeId} {s n : Nat} {v : Value} {xs : List Value} (h : w.ownsRow base e s v n xs) : ∃ A c, v = .slice A n c := by
  rcases h.2 with ⟨rfl, rfl⟩ | ⟨g, cap, cur, rfl, _⟩
  · exact ⟨none, 0, rfl⟩
  · exact ⟨_, cap, rfl⟩

set_option maxRecDepth 100000 in
set_option maxHeartbeats 400000 in
/-- slices.Clone, nil let in. -/
theorem clone59 (A : Option Addr) (n c : Nat) (ys : List Value) (w : World) (h : SlIs w 1 A n ys) (h1 : ∀ u ∈ ys, u.oneCell' = true) (hn : n * 16 ≤ 140737488355328) :
    Calls Tryz.prog 59 #[.slice A n c] w fun e w' => ∃ v, e = .returned v ∧ w'.ownsRow w.heap.size 9 1 v n ys ∧ Kept [] w w' := by
  cases A with
  | none =>
    obtain ⟨rfl, rfl⟩ := sl_nil_len h
    exact (Tryz.slices_Clone_nil_f59 0 c w).mono fun e w' ⟨h1, h2⟩ => ⟨_, h1, World.ownsRow_nil _ _ _ _, by subst h2; exact Kept.refl _ _⟩
  | some a =>
    have HS := Lib.hid h
    have H1 := Lib.hid h1
    clear h h1
    have heq := fun W => Lib.run_eql_slice_nil (P := Tryz.prog) W 44 9 (some a) n c 0 0 Tryz.underlying44
    go_enter Tryz.func59, Tryz.ntmps59
    go_wp2_with (at_builtin; refine wl_append rfl _ _ 44 rfl w.heap.size 9 Tryz.underlying44 info9 rfl (by decide) (.slice (some ⟨w.heap.size, 0, none⟩) 0 0) 0 [] rfl (World.ownsRow_lit _ #[] 0 (Nat.le_refl _) (by decide) rfl) (some a) n c ys rfl (HS.out.kept0 ((Kept.refl _ _).alloc _)) H1.out (by omega) (by omega) (by simp) ?_; intro v' w1 hown hk hat; have HO := Lib.hid hown; have HK := Lib.hid hk; clear hown hk hat)
    go_ret
    refine ⟨_, rfl, by simpa using HO.out, ?_⟩
    refine ((Kept.refl [] w).alloc _).trans HK.out ?_
    intro x hx
    have hx' : w.heap.size = x := by simpa [Value.ownBlock, eq_comm] using hx
    exact .inr (by omega)

set_option maxRecDepth 100000 in
set_option maxHeartbeats 400000 in
/-- slices.Clone, nil let in. -/
theorem clone60 (A : Option Addr) (n c : Nat) (ys : List Value) (w : World) (h : SlIs w 1 A n ys) (h1 : ∀ u ∈ ys, u.oneCell' = true) (hn : n * 4 ≤ 140737488355328) :
    Calls Tryz.prog 60 #[.slice A n c] w fun e w' => ∃ v, e = .returned v ∧ w'.ownsRow w.heap.size 21 1 v n ys ∧ Kept [] w w' := by
  cases A with
  | none =>
    obtain ⟨rfl, rfl⟩ := sl_nil_len h
    exact (Tryz.slices_Clone_nil_f60 0 c w).mono fun e w' ⟨h1, h2⟩ => ⟨_, h1, World.ownsRow_nil _ _ _ _, by subst h2; exact Kept.refl _ _⟩
  | some a =>
    have HS := Lib.hid h
    have H1 := Lib.hid h1
    clear h h1
    have heq := fun W => Lib.run_eql_slice_nil (P := Tryz.prog) W 49 21 (some a) n c 0 0 Tryz.underlying49
    go_enter Tryz.func60, Tryz.ntmps60
    go_wp2_with (at_builtin; refine wl_append rfl _ _ 49 rfl w.heap.size 21 Tryz.underlying49 info21 rfl (by decide) (.slice (some ⟨w.heap.size, 0, none⟩) 0 0) 0 [] rfl (World.ownsRow_lit _ #[] 0 (Nat.le_refl _) (by decide) rfl) (some a) n c ys rfl (HS.out.kept0 ((Kept.refl _ _).alloc _)) H1.out (by omega) (by omega) (by simp) ?_; intro v' w1 hown hk hat; have HO := Lib.hid hown; have HK := Lib.hid hk; clear hown hk hat)
    go_ret
    refine ⟨_, rfl, by simpa using HO.out, ?_⟩
    refine ((Kept.refl [] w).alloc _).trans HK.out ?_
    intro x hx
    have hx' : w.heap.size = x := by simpa [Value.ownBlock, eq_comm] using hx
    exact .inr (by omega)

set_option maxRecDepth 100000 in
set_option maxHeartbeats 400000 in
/-- copied: bytes of their own. -/
theorem copied_any (A : Option Addr) (n c : Nat) (ys : List Value) (w : World) (h : SlIs w 1 A n ys) (h1 : ∀ u ∈ ys, u.oneCell' = true) (hn : n ≤ 140737488355328) :
    Calls Tryz.prog 30 #[.slice A n c] w fun e w' => ∃ v, e = .returned v ∧ w'.ownsRow w.heap.size 5 1 v n ys ∧ Kept [] w w' := by
  have HS := Lib.hid h
  have H1 := Lib.hid h1
  clear h h1
  go_enter Tryz.func30, Tryz.ntmps30
  go_wp2_with (at_builtin; refine wl_append rfl _ _ 22 rfl w.heap.size 5 Tryz.underlying22 info5 rfl (by decide) (.slice (some ⟨w.heap.size, 0, none⟩) 0 0) 0 [] rfl (World.ownsRow_lit _ #[] 0 (Nat.le_refl _) (by decide) rfl) A n c ys rfl (HS.out.kept0 ((Kept.refl _ _).alloc _)) H1.out (by omega) (by omega) (by simp) ?_; intro v' w1 hown hk hat; have HO := Lib.hid hown; have HK := Lib.hid hk; clear hown hk hat)
  go_ret
  refine ⟨_, rfl, by simpa using HO.out, ?_⟩
  refine ((Kept.refl [] w).alloc _).trans HK.out ?_
  intro x hx
  have hx' : w.heap.size = x := by simpa [Value.ownBlock, eq_comm] using hx
  exact .inr (by omega)

/-! ### (Member).metadata -/
def metaF (B z : Nat) (ver gen : Int) (A2 : Option Addr) (n2 c2 : Nat) (ys : List Value) (A3 : Option Addr) (c3 : Nat) (i : Nat) (v : Value) (W : World) : Prop :=
  match i with
  | 0 => v = .pointer (some ⟨B, 1, none⟩)
  | 1 => v = .int .i16 ver
  | 2 => v = .pointer (some ⟨B, 2, none⟩)
  | 3 => v = .slice A2 n2 c2
  | 4 => W.ownsRow z 9 1 v n2 ys
  | 5 => v = .pointer (some ⟨B, 3, none⟩)
  | 6 => v = .slice A3 0 c3
  | 7 => v = .slice none 0 0
  | 8 => v = .pointer (some ⟨B, 5, none⟩)
  | 9 => v = .int .i32 gen
  | 10 => ∃ tv, v = .agg #[Value.int IntKind.i16 ver, tv, Value.slice none 0 0, Value.slice none 0 0, Value.int IntKind.i32 gen, Value.pointer none] ∧ W.ownsRow z 9 1 tv n2 ys
  | 11 => ∃ g, v = .pointer (some ⟨g, 0, none⟩) ∧ z ≤ g ∧ W.heap[g]? = some (.cells #[Value.int IntKind.i16 0, Value.slice none 0 0, Value.slice none 0 0, Value.slice none 0 0, Value.int IntKind.i32 0, Value.pointer none] 79 (0, 0))
  | _ => True

theorem own_kept0 {w w' : World} {base : Nat} {e : TypeId} {s n : Nat} {v : Value} {xs : List Value} (h : w.ownsRow base e s v n xs) (k : Kept [] w w') : w'.ownsRow base e s v n xs := k.own h (fun _ _ => by simp)

theorem metaF_stable {B z ver gen A2 n2 c2 ys A3 c3} : ∀ i v w w', metaF B z ver gen A2 n2 c2 ys A3 c3 i v w → Kept [] w w' → metaF B z ver gen A2 n2 c2 ys A3 c3 i v w' := by
  intro i v w w' h k
  unfold metaF at h ⊢
  split at h <;> try exact h
  · exact own_kept0 h k
  · obtain ⟨tv, rfl, h1⟩ := h
    exact ⟨tv, rfl, own_kept0 h1 k⟩
  · obtain ⟨g, rfl, h1, h2⟩ := h
    exact ⟨g, rfl, h1, k.heap h2 (by simp)⟩

theorem own_slice_one {w : World} {base : Nat} {e : TypeId} {s n : Nat} {v : Value} {xs : List Value} (h : w.ownsRow base e s v n xs) : v.oneCell' = true := by
  rcases h.2 with ⟨rfl, _⟩ | ⟨g, cap, cur, rfl, _⟩ <;> rfl
/-- Rows of two types lie apart. -/
theorem own_block_ne {w : World} {base : Nat} {e e' : TypeId} {s n : Nat} {v : Value} {xs : List Value} (h : w.ownsRow base e s v n xs) {g : Nat} {cs : Array Value} {fr : Nat × Nat} (hg : w.heap[g]? = some (.cells cs e' fr)) (hne : e ≠ e') : ∀ b, v.ownBlock = some b → b ≠ g := by
  rintro b hb rfl
  rcases h.2 with ⟨rfl, _⟩ | ⟨g', cap, cur, rfl, _, hh, _⟩
  · cases hb
  · have : g' = b := by simpa [Value.ownBlock] using hb
    subst this
    rw [hg] at hh
    injection hh with hh
    injection hh with _ h2
    exact hne h2.symm

set_option maxRecDepth 100000 in
set_option maxHeartbeats 800000 in
theorem metadata_any (id rack : ByteArray) (ver gen : Int) (A2 : Option Addr) (n2 c2 : Nat) (ys : List Value) (A3 : Option Addr) (c3 : Nat) (A4 : Option Addr) (c4 : Nat) (hr : Bool) (w : World)
    (h2 : SlIs w 1 A2 n2 ys) (h1 : ∀ u ∈ ys, u.oneCell' = true) (hn : n2 * 16 ≤ 140737488355328) :
    Calls Tryz.prog 41 #[.agg #[Value.string id, Value.int IntKind.i16 ver, Value.slice A2 n2 c2, Value.slice A3 0 c3, Value.slice A4 0 c4, Value.int IntKind.i32 gen, Value.string rack, Value.bool hr]] w fun e w' =>
      ∃ tv rp, e = .returned (.agg #[.int .i16 ver, tv, .slice none 0 0, .slice none 0 0, .int .i32 gen, .pointer rp]) ∧ w'.ownsRow w.heap.size 9 1 tv n2 ys ∧ Kept [] w w' := by
  have H1 := Lib.hid h1
  have H2 := Lib.hid h2
  have HN := Lib.hid hn
  clear h1 h2 hn
  go_enter Tryz.func41, Tryz.ntmps41
  go_wp2_with fail
  obtain ⟨W0, hW0⟩ : ∃ W0, W0 = ((w.alloc (Obj.cells #[Value.string id, Value.int IntKind.i16 ver, Value.slice A2 n2 c2, Value.slice A3 0 c3, Value.slice A4 0 c4, Value.int IntKind.i32 gen, Value.string rack, Value.bool hr] 46)).alloc (Obj.cells #[Value.int IntKind.i16 0, Value.slice none 0 0, Value.slice none 0 0, Value.slice none 0 0, Value.int IntKind.i32 0, Value.pointer none] 79)) := ⟨_, rfl⟩
  rw [← hW0]
  have hsz : W0.heap.size = w.heap.size + 2 := by subst hW0; simp
  have hB : W0.heap[w.heap.size]? = some (.cells #[Value.string id, Value.int IntKind.i16 ver, Value.slice A2 n2 c2, Value.slice A3 0 c3, Value.slice A4 0 c4, Value.int IntKind.i32 gen, Value.string rack, Value.bool hr] 46 (0, 0)) := by
    subst hW0
    rw [Below.heap_alloc _ _ _ (by simp), heap_alloc_new]
  have hZ0 : W0.heap[w.heap.size + 1]? = some (.cells #[Value.int IntKind.i16 0, Value.slice none 0 0, Value.slice none 0 0, Value.slice none 0 0, Value.int IntKind.i32 0, Value.pointer none] 79 (0, 0)) := by
    subst hW0
    exact heap_alloc2_new _ _ _
  have HK : Hid (Kept [] w W0) := by subst hW0; exact ((Kept.refl _ _).alloc _).alloc _
  clear hW0
  refine wp_region_facts' 12 (Kept []) (metaF w.heap.size W0.heap.size ver gen A2 n2 c2 ys A3 c3) mixed (by kernel_rfl) ((Kept.refl _ _).drew) (fun _ _ _ h k => h.trans0 k) metaF_stable ?_ ?_
  · refine ⟨?_, ?_, ?_, ?_, ?_, ?_, ?_, ?_, ?_, ?_, ?_, ?_, trivial⟩
    all_goals go_light
    all_goals intro a W hR hs hd
    all_goals have p1 : a.tmps[1]? = some (.pointer (some ⟨w.heap.size, 0, none⟩)) := hs.2.2 1 (by decide)
    all_goals have hB' := hR.heap hB (by simp)
    all_goals clear hB
    · refine ow_value (w' := W) (v := .pointer (some ⟨w.heap.size, 1, none⟩)) ?_ (.mk (Kept.refl _ _) rfl rfl)
      simp [go_sem, p1]
    · have q : _ = _ := hd.1 rfl
      have hc : W.cell? ⟨w.heap.size, 1, none⟩ = some (.int .i16 ver) := by simp [World.cell?, hB']
      refine ow_value (w' := W) (v := .int .i16 ver) ?_ (.mk (Kept.refl _ _) rfl rfl)
      simp [go_sem, q, hc]
    · refine ow_value (w' := W) (v := .pointer (some ⟨w.heap.size, 2, none⟩)) ?_ (.mk (Kept.refl _ _) rfl rfl)
      simp [go_sem, p1]
    · have q : _ = _ := hd.1 rfl
      have hc : W.cell? ⟨w.heap.size, 2, none⟩ = some (.slice A2 n2 c2) := by simp [World.cell?, hB']
      refine ow_value (w' := W) (v := .slice A2 n2 c2) ?_ (.mk (Kept.refl _ _) rfl rfl)
      simp [go_sem, q, hc]
    · have q : _ = _ := hd.1 rfl
      refine ow_call (w' := W) (f := 59) (args := #[.slice A2 n2 c2]) (by simp [go_sem, q]) (clone59 A2 n2 c2 ys W (H2.out.kept0 (HK.out.trans0 hR)) H1.out HN.out) ?_
      rintro e w'' ⟨v, rfl, h1, h3⟩
      refine ⟨_, rfl, .mk h3 ?_ rfl⟩
      exact own_mono h1 hR.size
    · refine ow_value (w' := W) (v := .pointer (some ⟨w.heap.size, 3, none⟩)) ?_ (.mk (Kept.refl _ _) rfl rfl)
      simp [go_sem, p1]
    · have q : _ = _ := hd.1 rfl
      have hc : W.cell? ⟨w.heap.size, 3, none⟩ = some (.slice A3 0 c3) := by simp [World.cell?, hB']
      refine ow_value (w' := W) (v := .slice A3 0 c3) ?_ (.mk (Kept.refl _ _) rfl rfl)
      simp [go_sem, q, hc]
    · have q : _ = _ := hd.1 rfl
      refine ow_value (w' := W) (v := .slice none 0 0) ?_ (.mk (Kept.refl _ _) rfl rfl)
      have := append_none 22 5 Tryz.underlying22 info5 A3 c3 W
      simp [execOp, resolve, invoke, builtin, Act.eval, q, this, Result.andThen]
    · refine ow_value (w' := W) (v := .pointer (some ⟨w.heap.size, 5, none⟩)) ?_ (.mk (Kept.refl _ _) rfl rfl)
      simp [go_sem, p1]
    · have q : _ = _ := hd.1 rfl
      have hc : W.cell? ⟨w.heap.size, 5, none⟩ = some (.int .i32 gen) := by simp [World.cell?, hB']
      refine ow_value (w' := W) (v := .int .i32 gen) ?_ (.mk (Kept.refl _ _) rfl rfl)
      simp [go_sem, q, hc]
    · have q1 : _ = _ := hd.1 rfl
      have q4 := hd.2.1 rfl
      have q7 : _ = _ := hd.2.2.1 rfl
      have q9 : _ = _ := hd.2.2.2.1 rfl
      obtain ⟨tv, htv⟩ : ∃ tv, a.tmps[11]?.getD undef = tv := ⟨_, rfl⟩
      change W.ownsRow W0.heap.size 9 1 (a.tmps[11]?.getD undef) n2 ys at q4
      rw [htv] at q4
      obtain ⟨A', c', rfl⟩ : ∃ A' c', tv = .slice A' n2 c' := own_form q4
      refine ow_value (w' := W) (v := .agg #[.int .i16 ver, .slice A' n2 c', .slice none 0 0, .slice none 0 0, .int .i32 gen, .pointer none]) ?_ (.mk (Kept.refl _ _) ⟨_, rfl, q4⟩ rfl)
      clear q4
      simp [go_sem, q1, htv, q7, q9]
    · refine ow_value (w' := W.alloc (Obj.cells #[Value.int IntKind.i16 0, Value.slice none 0 0, Value.slice none 0 0, Value.slice none 0 0, Value.int IntKind.i32 0, Value.pointer none] 79)) (v := .pointer (some ⟨W.heap.size, 0, none⟩)) ?_ (.mk ((Kept.refl _ _).alloc _) ⟨_, rfl, hR.size, heap_alloc_new _ _⟩ rfl)
      simp [go_sem]
  · intro f W hR hf
    obtain ⟨f0, f1, f2, f3, f4, f5, f6, f7, f8, f9, ⟨tv, f10, ho⟩, ⟨g, f11, hg1, hg2⟩, -⟩ := hf
    change f 7 = _ at f0
    change f 8 = _ at f1
    change f 9 = _ at f2
    change f 10 = _ at f3
    clear f4
    obtain ⟨x4, f4⟩ : ∃ x4, f 11 = x4 := ⟨_, rfl⟩
    change f 12 = _ at f5
    change f 13 = _ at f6
    change f 14 = _ at f7
    change f 15 = _ at f8
    change f 16 = _ at f9
    change f 17 = _ at f10
    change f 3 = _ at f11
    simp only [headDsts, List.take_succ_cons, List.take_zero, List.filterMap_cons, List.filterMap_nil, setAll, f0, f1, f2, f3, f4, f5, f6, f7, f8, f9, f10, f11, List.setIfInBounds_toArray, List.set_cons_succ, List.set_cons_zero, List.drop_succ_cons, List.drop_zero]
    clear f0 f1 f2 f3 f4 f5 f6 f7 f8 f9 f10 f11 f
    have hone := own_slice_one ho
    obtain ⟨W2, hW2⟩ : ∃ W2, W2 = W.setRow g #[Value.int IntKind.i16 ver, tv, Value.slice none 0 0, Value.slice none 0 0, Value.int IntKind.i32 gen, Value.pointer none] := ⟨_, rfl⟩
    have hlt : w.heap.size + 1 < g := by omega
    have hK2 : Kept [g] W0 W2 := by rw [hW2]; exact (hR.mono (by simp)).setRow (.inl (by simp)) _
    have hB2 : W2.heap[w.heap.size]? = some (.cells #[Value.string id, Value.int IntKind.i16 ver, Value.slice A2 n2 c2, Value.slice A3 0 c3, Value.slice A4 0 c4, Value.int IntKind.i32 gen, Value.string rack, Value.bool hr] 46 (0, 0)) := hK2.heap hB (by simp; omega)
    have hc4 : W2.cell? ⟨w.heap.size, 4, none⟩ = some (.slice A4 0 c4) := by simp [World.cell?, hB2]
    have hc6 : W2.cell? ⟨w.heap.size, 6, none⟩ = some (.string rack) := by simp [World.cell?, hB2]
    have hc7 : W2.cell? ⟨w.heap.size, 7, none⟩ = some (.bool hr) := by simp [World.cell?, hB2]
    have HZ2 : Hid (W2.heap[w.heap.size + 1]? = some (.cells #[Value.int IntKind.i16 0, Value.slice none 0 0, Value.slice none 0 0, Value.slice none 0 0, Value.int IntKind.i32 0, Value.pointer none] 79 (0, 0))) := hK2.heap hZ0 (by simp; omega)
    have hG2 : W2.heap[g]? = some (.cells #[Value.int IntKind.i16 ver, tv, Value.slice none 0 0, Value.slice none 0 0, Value.int IntKind.i32 gen, Value.pointer none] 79 (0, 0)) := by rw [hW2]; exact setRow_heap W g _ _ _ _ hg2
    have HO2 : Hid (W2.ownsRow W0.heap.size 9 1 tv n2 ys) := by
      rw [hW2]
      exact ((Kept.refl [g] W).setRow (.inl (by simp)) _).own ho (fun b hb hm => own_block_ne ho hg2 (by decide) b hb (by simpa using hm))
    have HK2 : Hid (Kept [] w W2) := by
      refine HK.out.trans hK2 (fun x hx => ?_)
      have hx' : x = g := by simpa using hx
      exact .inr (by omega)
    have hsz2 : g < W2.heap.size := (Array.getElem?_eq_some_iff.1 hG2).1
    refine wl_store_struct rfl 79 _ _ rfl (by kernel_rfl) g rfl rfl 79 _ hg2 rfl (by simpa [Value.oneCell'] using hone) ?_
    rw [← hW2]
    clear hW2 hg2 hR ho hZ0 hB hK2 hB2 HK hg1
    have HG := Lib.hid hG2
    clear hG2
    cases hr with
    | false =>
      go_wp2_with fail
      refine wp_loop_once ?_
      go_wp2_with (first | (refine wpList_load_row rfl 79 (.tmp 3) rfl g rfl 79 _ _ _ HG.out Tryz.underlying79 rfl (by kernel_rfl) ?_) | (refine wl_store_struct rfl 79 (.tmp 2) (.tmp 43) rfl (by kernel_rfl) _ rfl rfl 79 _ HZ2.out rfl (by simpa [Value.oneCell'] using hone) ?_))
      refine bodyPost_ret (results_cell_row rfl _ _ _ _ _ (0, 0) _ rfl (setRow_heap _ _ _ _ _ _ HZ2.out) Tryz.underlying79 rfl (by kernel_rfl)) rfl ⟨tv, none, rfl, ?_, ?_⟩
      · refine own_mono (((Kept.refl [w.heap.size + 1] W2).setRow (.inl (by simp)) _).own HO2.out (fun b hb hm => own_block_ne HO2.out HZ2.out (by decide) b hb (by simpa using hm))) (by omega)
      · exact HK2.out.setRow (.inr (by omega)) _
    | true =>
      have hcg : W2.cell? ⟨g, 5, none⟩ = some (.pointer none) := by rw [cell_of_row _ _ _ _ _ _ HG.out]; rfl
      have hfg : W2.frozen? ⟨g, 5, none⟩ = false := frozen_of_row _ _ _ _ _ HG.out
      obtain ⟨W3, hW3⟩ : ∃ W3, W3 = (W2.setCell ⟨g, 5, none⟩ (.pointer (some ⟨W2.heap.size, 0, none⟩))).alloc (.cells #[.string rack] 9) := ⟨_, rfl⟩
      have hsz3 : (W2.setCell ⟨g, 5, none⟩ (.pointer (some ⟨W2.heap.size, 0, none⟩))).heap.size = W2.heap.size := by simp [World.setCell]
      have HG3 : Hid (W3.heap[g]? = some (.cells #[Value.int IntKind.i16 ver, tv, Value.slice none 0 0, Value.slice none 0 0, Value.int IntKind.i32 gen, Value.pointer (some ⟨W2.heap.size, 0, none⟩)] 79 (0, 0))) := by
        rw [hW3]
        unfold Hid
        rw [Below.heap_alloc _ _ _ (by omega), heap_setCell_same _ _ _ _ _ _ HG.out]
        rfl
      have HZ3 : Hid (W3.heap[w.heap.size + 1]? = some (.cells #[Value.int IntKind.i16 0, Value.slice none 0 0, Value.slice none 0 0, Value.slice none 0 0, Value.int IntKind.i32 0, Value.pointer none] 79 (0, 0))) := by
        rw [hW3]
        unfold Hid
        rw [Below.heap_alloc _ _ _ (by omega), heap_setCell_other _ _ _ _ (by simp; omega)]
        exact HZ2.out
      have HK3 : Hid (Kept [g] W2 W3) := by
        rw [hW3]
        exact ((Kept.refl [g] W2).setCell (.inl (by simp)) _).alloc _
      have HW3 := Lib.hid hW3
      clear hW3 hsz3
      go_wp2_with fail
      refine wp_loop_once ?_
      go_wp2_with (first | (refine wpList_load_row rfl 79 (.tmp 3) rfl g rfl 79 _ _ _ (HW3.out ▸ HG3.out) Tryz.underlying79 rfl (by kernel_rfl) ?_; rw [← HW3.out]) | (refine wl_store_struct rfl 79 (.tmp 2) (.tmp 43) rfl (by kernel_rfl) _ rfl rfl 79 _ HZ3.out rfl (by simpa [Value.oneCell'] using hone) ?_))
      refine bodyPost_ret (results_cell_row rfl _ _ _ _ _ (0, 0) _ rfl (setRow_heap _ _ _ _ _ _ HZ3.out) Tryz.underlying79 rfl (by kernel_rfl)) rfl ⟨tv, some ⟨W2.heap.size, 0, none⟩, rfl, ?_, ?_⟩
      · have ho3 := HK3.out.own HO2.out (fun b hb hm => own_block_ne HO2.out HG.out (by decide) b hb (by simpa using hm))
        refine own_mono (((Kept.refl [w.heap.size + 1] W3).setRow (.inl (by simp)) _).own ho3 (fun b hb hm => own_block_ne ho3 HZ3.out (by decide) b hb (by simpa using hm))) (by omega)
      · exact (HK2.out.trans HK3.out (fun x hx => .inr (by have : x = g := by simpa using hx
                                                           omega))).setRow (.inr (by omega)) _
end Go.Proofs.YtghgffhcdnmpnaaGreat
/-
  How lists of shares and of members stand in memory; the map of topics; laws for lists of pieces of one length.
-/
namespace Go.Proofs.YtghgffhcdnmpnaaGreat
open Go.RowKit

/-! ### Pieces of one length -/
theorem flat_get {α β : Type} (f : α → List β) (s : Nat) (hf : ∀ x, (f x).length = s) (hs : 0 < s) : ∀ (l : List α) (i j : Nat), j < s → (l.flatMap f)[i * s + j]? = (l[i]?).bind (fun x => (f x)[j]?)
  | [], i, j, hj => by simp
  | x :: l, 0, j, hj => by
    rw [List.flatMap_cons, Nat.zero_mul, Nat.zero_add, List.getElem?_append_left (by rw [hf]; exact hj)]
    simp
  | x :: l, i + 1, j, hj => by
    have := flat_get f s hf hs l i j hj
    rw [List.flatMap_cons, List.getElem?_append_right (by rw [hf, Nat.add_mul]; omega), hf, show (i + 1) * s + j - s = i * s + j by rw [Nat.add_mul]; omega, this]
    simp
theorem flat_len {α β : Type} (f : α → List β) (s : Nat) (hf : ∀ x, (f x).length = s) : ∀ (l : List α), (l.flatMap f).length = l.length * s
  | [] => by simp
  | x :: l => by rw [List.flatMap_cons, List.length_append, hf, flat_len f s hf l, List.length_cons, Nat.add_mul]; omega

/-! ### Slices whose memory lies in some blocks -/
def SlAt (w : World) (X : Nat → Prop) (s : Nat) (v : Value) (xs : List Value) : Prop :=
  ∃ A n c, v = .slice A n c ∧ SlIs w s A n xs ∧ (∀ a, A = some a → 0 < n → X a.block) ∧ n ≤ c
theorem SlAt.kept {S : List Nat} {w w' : World} {X : Nat → Prop} {s : Nat} {v : Value} {xs : List Value} (h : SlAt w X s v xs) (k : Kept S w w') (hS : ∀ x, X x → x ∉ S) : SlAt w' X s v xs := by
  obtain ⟨A, n, c, rfl, h1, h2, h3⟩ := h
  refine ⟨A, n, c, rfl, ⟨h1.1, h1.2.1, fun hn => ?_⟩, h2, h3⟩
  obtain ⟨b, off, hA, hc⟩ := h1.2.2 hn
  exact ⟨b, off, hA, fun i v hv => k.cell (hc i v hv) (hS _ (h2 ⟨b, off, none⟩ hA hn))⟩
theorem SlAt.mono {w : World} {X Y : Nat → Prop} {s : Nat} {v : Value} {xs : List Value} (h : SlAt w X s v xs) (hXY : ∀ x, X x → Y x) : SlAt w Y s v xs := by
  obtain ⟨A, n, c, rfl, h1, h2, h3⟩ := h
  exact ⟨A, n, c, rfl, h1, fun a ha hn => hXY _ (h2 a ha hn), h3⟩
theorem SlAt.kept0 {w w' : World} {X : Nat → Prop} {s : Nat} {v : Value} {xs : List Value} (h : SlAt w X s v xs) (k : Kept [] w w') : SlAt w' X s v xs := h.kept k (fun _ _ => by simp)
theorem own_cap {w : World} {base : Nat} {e : TypeId} {s n c : Nat} {A : Option Addr} {xs : List Value} (h : w.ownsRow base e s (.slice A n c) n xs) : n ≤ c := by
  rcases h.2 with ⟨h1, h2⟩ | ⟨g, cap, cur, h1, _, _, h2, _⟩
  · omega
  · injection h1 with _ _ h3
    omega
theorem SlAt.own {w : World} {base : Nat} {e : TypeId} {s n : Nat} {v : Value} {xs : List Value} (h : w.ownsRow base e s v n xs) : SlAt w (fun x => v.ownBlock = some x ∧ base ≤ x ∧ x < w.heap.size) s v xs := by
  obtain ⟨A, c, rfl, h1, h2⟩ := own_sl h
  exact ⟨A, n, c, rfl, h1, fun a ha _ => by
    subst ha
    exact ⟨rfl, h2 a rfl⟩, own_cap h⟩
/-- A slice of a slice, with both bounds. -/
theorem run_slice_subN {P : Program} {w : World} {X : Nat → Prop} {t e : TypeId} {A : Option Addr} {m c : Nat} {xs : List Value} {sz : Nat} (ht : P.underlying t = some (.slice e)) (hi : (P.info? e).map (·.size) = some sz) (h : SlAt w X sz (.slice A m c) xs) (lo hi' : Nat) (h1 : lo ≤ hi') (h2 : hi' ≤ m) :
    ∃ v', (Instr.sliceAt t (.slice A m c) (some (.int .i64 lo)) (some (.int .i64 hi')) none).run P w = .ok v' w ∧ SlAt w X sz v' ((xs.take (hi' * sz)).drop (lo * sz)) := by
  obtain ⟨A', n, c', he, hs, hX, hc⟩ := h
  cases he
  have hel : P.elem t = e := by simp [Program.elem, ht]
  have ht' : P.underlying t = some (.slice (P.elem t)) := by rw [hel, ht]
  cases hq : P.info? e with
  | none => simp [hq] at hi
  | some i =>
    have his : i.size = sz := by simpa [hq] using hi
    refine ⟨sliced A lo hi' c sz, ?_, ?_⟩
    · rw [run_sliceAt_slice (P := P) (w := w) t _ _ _ _ ht', run_slice_lh (P := P) (w := w) t _ _ _ ht' _ _ _ _ (by omega) (by omega) (by omega), hel]
      simp [sizeOf, typeInfo, hq, his, Result.andThen]
    · refine ⟨_, _, _, rfl, ⟨?_, by have := hs.2.1; omega, fun hpos => ?_⟩, fun a ha hpos => ?_, by omega⟩
      · rw [List.length_drop, List.length_take, hs.1, Nat.sub_mul, Nat.min_eq_left (Nat.mul_le_mul_right _ h2)]
      · obtain ⟨b, off, rfl, hcc⟩ := hs.2.2 (by omega)
        rw [if_neg (by omega)]
        refine ⟨b, off + lo * sz, by by_cases h0 : lo * sz = 0 <;> simp [Addr.add, h0], fun j v hv => ?_⟩
        rw [List.getElem?_drop, List.getElem?_take] at hv
        split at hv
        · rw [Nat.add_assoc]; exact hcc _ _ hv
        · cases hv
      · obtain ⟨b, off, rfl, hcc⟩ := hs.2.2 (by omega)
        rw [if_neg (by omega)] at ha
        have : a = ⟨b, off + lo * sz, none⟩ := by
          have := ha.symm
          by_cases h0 : lo * sz = 0 <;> simpa [Addr.add, h0] using this
        rw [this]
        exact hX ⟨b, off, none⟩ rfl (by omega)
theorem run_slice_sub {P : Program} {w : World} {X : Nat → Prop} {t e : TypeId} {A : Option Addr} {m c : Nat} {xs : List Value} (ht : P.underlying t = some (.slice e)) (hi : (P.info? e).map (·.size) = some 1) (h : SlAt w X 1 (.slice A m c) xs) (lo hi' : Nat) (h1 : lo ≤ hi') (h2 : hi' ≤ m) :
    ∃ v', (Instr.sliceAt t (.slice A m c) (some (.int .i64 lo)) (some (.int .i64 hi')) none).run P w = .ok v' w ∧ SlAt w X 1 v' ((xs.take hi').drop lo) := by
  have := run_slice_subN ht hi h lo hi' h1 h2
  simpa using this

/-! ### Shares -/
structure Sh where
  mem : ByteArray
  top : ByteArray
  parts : List Int
def shCells (p : Sh × Value) : List Value := [.string p.1.mem, .string p.1.top, p.2]
def ints (l : List Int) : List Value := l.map (Value.int .i32)
theorem ints_one (l : List Int) : ∀ u ∈ ints l, u.oneCell' = true := by
  intro u hu
  obtain ⟨i, _, rfl⟩ := List.mem_map.1 hu
  rfl
def strs (l : List ByteArray) : List Value := l.map Value.string
theorem strs_one (l : List ByteArray) : ∀ u ∈ strs l, u.oneCell' = true := by
  intro u hu
  obtain ⟨i, _, rfl⟩ := List.mem_map.1 hu
  rfl
def ShsAt (w : World) (X : Nat → Prop) (v : Value) (l : List Sh) : Prop :=
  ∃ l' : List (Sh × Value), l'.map Prod.fst = l ∧ SlAt w X 3 v (l'.flatMap shCells) ∧ ∀ p ∈ l', SlAt w X 1 p.2 (ints p.1.parts)
theorem ShsAt.kept {S : List Nat} {w w' : World} {X : Nat → Prop} {v : Value} {l : List Sh} (h : ShsAt w X v l) (k : Kept S w w') (hS : ∀ x, X x → x ∉ S) : ShsAt w' X v l := by
  obtain ⟨l', h1, h2, h3⟩ := h
  exact ⟨l', h1, h2.kept k hS, fun p hp => (h3 p hp).kept k hS⟩
theorem ShsAt.kept0 {w w' : World} {X : Nat → Prop} {v : Value} {l : List Sh} (h : ShsAt w X v l) (k : Kept [] w w') : ShsAt w' X v l := h.kept k (fun _ _ => by simp)
theorem ShsAt.mono {w : World} {X Y : Nat → Prop} {v : Value} {l : List Sh} (h : ShsAt w X v l) (hXY : ∀ x, X x → Y x) : ShsAt w Y v l := by
  obtain ⟨l', h1, h2, h3⟩ := h
  exact ⟨l', h1, h2.mono hXY, fun p hp => (h3 p hp).mono hXY⟩

/-! ### Members -/
structure MV where
  id : ByteArray
  ver : Int
  tops : List ByteArray
  tv : Value
  dv : Value
  ov : Value
  dn : Nat
  on : Nat
  gen : Int
  rack : ByteArray
  hr : Bool
def mvCells (m : MV) : List Value := [.string m.id, .int .i16 m.ver, m.tv, m.dv, m.ov, .int .i32 m.gen, .string m.rack, .bool m.hr]
def MemsAt (w : World) (X : Nat → Prop) (v : Value) (l : List MV) : Prop :=
  SlAt w X 8 v (l.flatMap mvCells) ∧ ∀ m ∈ l, SlAt w X 1 m.tv (strs m.tops) ∧ (∃ A c, m.dv = .slice A m.dn c) ∧ ∃ A c, m.ov = .slice A m.on c
theorem MemsAt.kept {S : List Nat} {w w' : World} {X : Nat → Prop} {v : Value} {l : List MV} (h : MemsAt w X v l) (k : Kept S w w') (hS : ∀ x, X x → x ∉ S) : MemsAt w' X v l :=
  ⟨h.1.kept k hS, fun m hm => ⟨(h.2 m hm).1.kept k hS, (h.2 m hm).2⟩⟩
theorem MemsAt.kept0 {w w' : World} {X : Nat → Prop} {v : Value} {l : List MV} (h : MemsAt w X v l) (k : Kept [] w w') : MemsAt w' X v l := h.kept k (fun _ _ => by simp)

/-! ### Maps of strings to numbers -/
/-- The map's entries, the values read out. -/
def TmAt (w : World) (X : Nat → Prop) (b : Nat) (l : List (ByteArray × List Int)) : Prop :=
  X b ∧ ∃ m : List (ByteArray × Value × List Int), MapIs Value.string w b (m.map fun e => (e.1, e.2.1)) ∧ m.map (fun e => (e.1, e.2.2)) = l ∧ ∀ e ∈ m, SlAt w (fun x => X x ∧ x ≠ b) 1 e.2.1 (ints e.2.2)
theorem TmAt.kept {S : List Nat} {w w' : World} {X : Nat → Prop} {b : Nat} {l : List (ByteArray × List Int)} (h : TmAt w X b l) (k : Kept S w w') (hS : ∀ x, X x → x ∉ S) : TmAt w' X b l := by
  obtain ⟨h0, m, h1, h2, h3⟩ := h
  exact ⟨h0, m, h1.kept k (hS _ h0), h2, fun e he => (h3 e he).kept k (fun x hx => hS x hx.1)⟩
theorem TmAt.kept0 {w w' : World} {X : Nat → Prop} {b : Nat} {l : List (ByteArray × List Int)} (h : TmAt w X b l) (k : Kept [] w w') : TmAt w' X b l := h.kept k (fun _ _ => by simp)
/-- m[k] of such a list; nothing where there is none. -/
def tget : List (ByteArray × List Int) → ByteArray → List Int
  | [], _ => []
  | p :: r, k => if p.1 = k then p.2 else tget r k
theorem SlAt.nil (w : World) (X : Nat → Prop) (s : Nat) : SlAt w X s (.slice none 0 0) [] := ⟨none, 0, 0, rfl, SlIs.nil _ _ _, by simp, Nat.le_refl _⟩
theorem tget_get {w : World} {X : Nat → Prop} (k : ByteArray) : ∀ (m : List (ByteArray × Value × List Int)), (∀ e ∈ m, SlAt w X 1 e.2.1 (ints e.2.2)) →
    SlAt w X 1 ((mget (m.map fun e => (e.1, e.2.1)) k).getD (.slice none 0 0)) (ints (tget (m.map fun e => (e.1, e.2.2)) k))
  | [], _ => SlAt.nil _ _ _
  | e :: m, h => by
    by_cases he : e.1 = k
    · simp only [List.map_cons, mget, tget, he, if_true, Option.getD_some]
      exact h e (.head _)
    · simp only [List.map_cons, mget, tget, he, if_false]
      exact tget_get k m (fun e he => h e (.tail _ he))
end Go.Proofs.YtghgffhcdnmpnaaGreat
/-
  The map of topics, as the thin package makes it. Conditions: the topics' names are different ones; no list is longer than a million.
-/
namespace Go.Proofs.YtghgffhcdnmpnaaGreat
open Go.RowKit
def tmF (b B z : Nat) (top : ByteArray) (u : Value) (ps : List Int) (ix : Nat) (v : Value) (W : World) : Prop :=
  match ix with
  | 0 => v = .map (some b)
  | 1 => v = .pointer (some ⟨B, 1, none⟩)
  | 2 => v = .string top
  | 3 => v = .pointer (some ⟨B, 2, none⟩)
  | 4 => v = u
  | 5 => W.ownsRow z 21 1 v ps.length (ints ps)
  | _ => True
theorem tmF_stable {b B z top u ps} : ∀ ix v w w', tmF b B z top u ps ix v w → Kept [] w w' → tmF b B z top u ps ix v w' := by
  intro ix v w w' h k
  unfold tmF at h ⊢
  split at h <;> (first | (exact h) | (exact own_kept0 h k))

theorem keys_take {α β : Type} (f : α → β) {l : List α} (h : (l.map f).Nodup) (j : Nat) (x : α) (hj : l[j]? = some x) : f x ∉ (l.take j).map f := by
  intro hm
  have h1 : (l.map f).take (j + 1) = (l.take j).map f ++ [f x] := by
    rw [← List.map_take, List.take_add_one, hj]
    simp
  have h2 : ((l.map f).take (j + 1)).Nodup := h.sublist (List.take_sublist _ _)
  rw [h1, List.nodup_append] at h2
  exact h2.2.2 _ hm _ (.head _) rfl
theorem take_one {α : Type} {l : List α} {j : Nat} {x : α} (hj : l[j]? = some x) : l.take (j + 1) = l.take j ++ [x] := by
  rw [List.take_add_one, hj]
  rfl
theorem i64_succ {j : Nat} (h : j < 9223372036854775807) : Value.int IntKind.i64 (wrap64 ((j : Int) + 1)) = .int .i64 ((j + 1 : Nat) : Int) := by
  rw [IntWalk.wrap64_in _ (by omega)]
  rfl
theorem str9 : KeyOps Tryz.prog 9 Value.string := str_keys Tryz.underlying9
set_option maxRecDepth 100000 in
set_option maxHeartbeats 800000 in
/-- The map of topics. -/
theorem topicMap_any (X : Nat → Prop) (v : Value) (l : List Sh) (w : World) (h : ShsAt w X v l) (hnd : (l.map Sh.top).Nodup) (hsz : ∀ s ∈ l, s.parts.length ≤ 1000000) :
    Calls Tryz.prog 43 #[v] w fun e w' => ∃ b, e = .returned (.map (some b)) ∧ TmAt w' (fun x => w.heap.size ≤ x ∧ x < w'.heap.size) b (l.map fun s => (s.top, s.parts)) ∧ Kept [] w w' := by
  obtain ⟨l', rfl, ⟨A, n, c, rfl, h1, h2⟩, h3⟩ := h
  obtain rfl : n = l'.length := by have := h1.1; rw [flat_len shCells 3 (fun _ => rfl)] at this; omega
  have H2 := Lib.hid h2
  have HS := Lib.hid h1
  have H3 := Lib.hid h3
  have HSZ := Lib.hid hsz
  have HND := Lib.hid hnd
  have hmm := @run_makeMap Tryz.prog
  clear h1 h2 h3 hsz hnd
  go_enter Tryz.func43, Tryz.ntmps43
  go_wp2
  go_loopg [9] l'.length (fun k i wr => ∃ j, k = l'.length - j ∧ j ≤ l'.length ∧ i = .int .i64 j ∧ TmAt wr (fun x => w.heap.size ≤ x ∧ x < wr.heap.size) w.heap.size ((l'.take j).map fun p => (p.1.top, p.1.parts)) ∧ Kept [] w wr)
  case atStart =>
    refine ⟨0, rfl, Nat.zero_le _, rfl, ⟨⟨Nat.le_refl _, by simp⟩, [], MapIs.new _ _, rfl, by simp⟩, (Kept.refl _ _).alloc _⟩
  case round =>
    obtain ⟨j, hk, hj, rfl, ht, hK⟩ := hrel
    have HT := Lib.hid ht
    have HK := Lib.hid hK
    clear ht hK
    by_cases hlt : j < l'.length
    · have hlt' : (j : Int) < (l'.length : Int) := by omega
      obtain ⟨s, hs⟩ : ∃ s, l'[j]? = some s := ⟨_, List.getElem?_eq_getElem (by omega)⟩
      have hsm : s ∈ l' := List.mem_of_getElem? hs
      obtain ⟨b, off, rfl, hc⟩ := HS.out.2.2 (by omega)
      have hps : Hid (SlAt w X 1 s.2 (ints s.1.parts)) := H3.out s hsm
      have hpl : s.1.parts.length ≤ 1000000 := HSZ.out _ (List.mem_map.2 ⟨s, hsm, rfl⟩)
      have hg := fun i (hi : i < 3) => flat_get shCells 3 (fun _ => rfl) (by decide) l' j i hi
      have e0 : wr.cell? ⟨b, off + (j * 3 + 0), none⟩ = some (.string s.1.mem) := HK.out.cell (hc _ _ (by rw [hg 0 (by decide), hs]; rfl)) (by simp)
      have e1 : wr.cell? ⟨b, off + (j * 3 + 1), none⟩ = some (.string s.1.top) := HK.out.cell (hc _ _ (by rw [hg 1 (by decide), hs]; rfl)) (by simp)
      have e2 : wr.cell? ⟨b, off + (j * 3 + 2), none⟩ = some s.2 := HK.out.cell (hc _ _ (by rw [hg 2 (by decide), hs]; rfl)) (by simp)
      have HC : Hid (∀ i v, [Value.string s.1.mem, .string s.1.top, s.2][i]? = some v → wr.cell? ⟨b, off + j * 3 + i, none⟩ = some v) := by
        intro i v hv
        match i, hv with
        | 0, hv => rw [← Option.some.inj hv]; rw [Nat.add_assoc]; exact e0
        | 1, hv => rw [← Option.some.inj hv]; rw [Nat.add_assoc]; exact e1
        | 2, hv => rw [← Option.some.inj hv]; rw [Nat.add_assoc]; exact e2
      have hnew : s.1.top ∉ (l'.take j).map (fun p => p.1.top) := by
        have h0 := HND.out
        rw [List.map_map] at h0
        exact keys_take (fun p : Sh × Value => p.1.top) h0 j s hs
      have HNEW := Lib.hid hnew
      have HHS := Lib.hid hs
      clear hc hg e0 e1 e2 hnew hs
      have hone : s.2.oneCell' = true := by obtain ⟨_, _, _, hu, _⟩ := hps.out; rw [hu]; rfl
      go_wp2_with (first | (refine wl_load_struct rfl 53 _ rfl Tryz.underlying53 rfl rfl b (off + j * 3) rfl _ rfl HC.out ?_) | (refine wl_store_struct rfl 53 (.tmp 5) (.tmp 12) rfl (by kernel_rfl) _ rfl rfl 53 _ (heap_alloc_new _ _) rfl (by simpa [Value.oneCell'] using hone) ?_))
      dsimp only [Act.put]
      obtain ⟨W0, hW0⟩ : ∃ W0, W0 = ((wr.alloc (Obj.cells #[Value.string { data := #[] }, Value.string { data := #[] }, Value.slice none 0 0] 53)).setRow wr.heap.size #[Value.string s.1.mem, Value.string s.1.top, s.2]) := ⟨_, rfl⟩
      rw [← hW0]
      have hsz : W0.heap.size = wr.heap.size + 1 := by subst hW0; simp
      have hB : W0.heap[wr.heap.size]? = some (.cells #[Value.string s.1.mem, Value.string s.1.top, s.2] 53 (0, 0)) := by
        subst hW0
        exact setRow_heap _ _ _ _ _ _ (heap_alloc_new _ _)
      have hKW : Kept [] wr W0 := by subst hW0; exact ((Kept.refl _ _).alloc _).setRow (.inr (Nat.le_refl _)) _
      clear hW0
      have HK0 : Hid (Kept [] w W0) := HK.out.trans0 hKW
      have HT0 : Hid (TmAt W0 (fun x => w.heap.size ≤ x ∧ x < wr.heap.size) w.heap.size ((l'.take j).map fun p => (p.1.top, p.1.parts))) := HT.out.kept0 hKW
      have hps0 : Hid (SlAt W0 X 1 s.2 (ints s.1.parts)) := hps.out.kept0 (HK.out.trans0 hKW)
      clear HT hps
      refine wp_region_facts' 6 (Kept []) (tmF w.heap.size wr.heap.size W0.heap.size s.1.top s.2 s.1.parts) mixed (by kernel_rfl) ((Kept.refl _ _).drew) (fun _ _ _ h k => h.trans0 k) tmF_stable ?_ ?_
      · refine ⟨?_, ?_, ?_, ?_, ?_, ?_, trivial⟩
        all_goals go_light
        all_goals intro a W hR hs hd
        all_goals have p3 : a.tmps[3]? = some (.map (some w.heap.size)) := hs.2.2 3 (by decide)
        all_goals have p5 : a.tmps[5]? = some (.pointer (some ⟨wr.heap.size, 0, none⟩)) := hs.2.2 5 (by decide)
        all_goals have hRr := Kept.refl [] W
        all_goals have hB' := hR.heap hB (by simp)
        all_goals have hc1 : W.cell? ⟨wr.heap.size, 1, none⟩ = some (.string s.1.top) := by simp [World.cell?, hB']
        all_goals have hc2 : W.cell? ⟨wr.heap.size, 2, none⟩ = some s.2 := by simp [World.cell?, hB']
        all_goals clear hB hB'
        · refine ow_value (w' := W) (v := .map (some w.heap.size)) ?_ (.mk hRr rfl rfl)
          simp [go_sem, p3]
        · refine ow_value (w' := W) (v := .pointer (some ⟨wr.heap.size, 1, none⟩)) ?_ (.mk hRr rfl rfl)
          simp [go_sem, p5]
        · have q1 : _ = _ := hd.1 rfl
          refine ow_value (w' := W) (v := .string s.1.top) ?_ (.mk hRr rfl rfl)
          simp [go_sem, q1, hc1]
        · refine ow_value (w' := W) (v := .pointer (some ⟨wr.heap.size, 2, none⟩)) ?_ (.mk hRr rfl rfl)
          simp [go_sem, p5]
        · have q3 : _ = _ := hd.1 rfl
          refine ow_value (w' := W) (v := s.2) ?_ (.mk hRr rfl rfl)
          simp [go_sem, q3, hc2]
        · have q4 : _ = _ := hd.1 rfl
          obtain ⟨A1, n1, c1, hu, hsl, _, _⟩ := hps0.out.kept0 hR
          have hln1 : n1 = s.1.parts.length := by have := hsl.1; simp [ints] at this; omega
          subst hln1
          rw [hu] at q4
          refine ow_call (w' := W) (f := 60) (args := #[.slice A1 s.1.parts.length c1]) (by simp [go_sem, q4]) (clone60 A1 _ c1 _ W hsl (ints_one _) (by omega)) ?_
          rintro e w'' ⟨v, rfl, h1, h3⟩
          exact ⟨_, rfl, .mk h3 (own_mono h1 hR.size) rfl⟩
      · intro f W hR hf
        obtain ⟨f0, f1, f2, f3, f4, f5, -⟩ := hf
        change f 13 = _ at f0
        change f 14 = _ at f1
        change f 15 = _ at f2
        change f 16 = _ at f3
        change f 17 = _ at f4
        change W.ownsRow W0.heap.size 21 1 (f 18) s.1.parts.length (ints s.1.parts) at f5
        obtain ⟨x5, g5⟩ : ∃ x, f 18 = x := ⟨_, rfl⟩
        rw [g5] at f5
        simp only [headDsts, List.take_succ_cons, List.take_zero, List.filterMap_cons, List.filterMap_nil, setAll, f0, f1, f2, f3, f4, g5, List.setIfInBounds_toArray, List.set_cons_succ, List.set_cons_zero, List.drop_succ_cons, List.drop_zero]
        clear f0 f1 f2 f3 f4 g5 f

        have hszW := hR.size
        obtain ⟨hX0, m, hM, hml, hmv⟩ := HT0.out.kept0 hR
        refine wl_update rfl _ _ _ 89 rfl 49 Tryz.underlying89 str9 w.heap.size _ rfl hM s.1.top rfl x5 rfl ?_
        intro w2 hM2 hK2 hs2
        have hbk : w.heap.size < wr.heap.size := hX0.2
        have hmg : mget (m.map fun e => (e.1, e.2.1)) s.1.top = none := by
          refine mget_none_iff.2 ?_
          rw [List.map_map]
          intro hh
          refine HNEW.out ?_
          have h9 := congrArg (List.map Prod.fst) hml
          rw [List.map_map, List.map_map] at h9
          rw [show (List.take j l').map (fun p => p.1.top) = m.map (Prod.fst ∘ fun e => (e.fst, e.snd.snd)) from h9.symm]
          exact hh
        rw [mset_new _ hmg] at hM2
        have ho2 : w2.ownsRow W0.heap.size 21 1 x5 s.1.parts.length (ints s.1.parts) := hK2.own f5 (fun g hg hm => by
          have hgg : W0.heap.size ≤ g := by
            rcases f5.2 with ⟨rfl, _⟩ | ⟨g', cap, cur, rfl, hb', _⟩
            · cases hg
            · have : g' = g := by simpa [Value.ownBlock] using hg
              omega
          simp at hm
          omega)
        have HT2 : Hid (TmAt w2 (fun x => w.heap.size ≤ x ∧ x < w2.heap.size) w.heap.size ((l'.take (j + 1)).map fun p => (p.1.top, p.1.parts))) := by
          refine ⟨⟨Nat.le_refl _, by omega⟩, m ++ [(s.1.top, x5, s.1.parts)], by simpa using hM2, ?_, ?_⟩
          · rw [take_one HHS.out, List.map_append, List.map_append, hml]
            rfl
          · intro e he
            rcases List.mem_append.1 he with he | he
            · refine ((hmv e he).kept hK2 ?_).mono ?_
              · intro x hx; simpa using hx.2
              · intro x hx; have := hx.1; exact ⟨⟨this.1, by omega⟩, hx.2⟩
            · have : e = (s.1.top, x5, s.1.parts) := by simpa using he
              subst this
              exact (SlAt.own ho2).mono (fun x hx => ⟨⟨by omega, hx.2.2⟩, by omega⟩)
        have HK2 : Hid (Kept [] w w2) := (HK0.out.trans0 hR).trans hK2 (fun x hx => .inr (by simp at hx; omega))
        clear hM hml hmv hM2 hK2 hmg ho2 f5 hR HT0 HK0 hps0 hB hKW HK
        go_wp2
        have hwr : Value.int IntKind.i64 (wrap64 ((j : Int) + 1)) = .int .i64 ((j + 1 : Nat) : Int) := i64_succ (by have := HS.out.2.1; omega)
        go_roundg (l'.length - (j + 1))
        case measure => omega
        case rel => exact ⟨j + 1, rfl, by omega, hwr, HT2.out, HK2.out⟩
    · have hjn : j = l'.length := by omega
      have hlt' : ¬ (j : Int) < (l'.length : Int) := by omega
      have HT2 : Hid (TmAt wr (fun x => w.heap.size ≤ x ∧ x < wr.heap.size) w.heap.size ((l'.map Prod.fst).map fun s => (s.top, s.parts))) := by
        have := HT.out
        rw [hjn, List.take_length] at this
        rw [List.map_map]
        exact this
      clear HT
      go_wp2
      go_ret
      exact ⟨_, rfl, by simpa using HT2.out, HK.out⟩

end Go.Proofs.YtghgffhcdnmpnaaGreat
