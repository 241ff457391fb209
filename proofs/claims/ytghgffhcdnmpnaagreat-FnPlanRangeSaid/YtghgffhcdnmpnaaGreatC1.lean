/-
  Contracts of small functions of the thin package: slices.Clone, copied, (Member).metadata. Each leaves all memory that was there. Conditions: a member's data and what it owns are empty; lists fit the model's room.
-/
import Derived.Test.YtghgffhcdnmpnaaGreatB1
import Derived.Test.YtghgffhcdnmpnaaGreatR0
import Derived.Test.YtghgffhcdnmpnaaGreatShelf
import Derived.WalkSpells
import Derived.WalkLawsBesides
import Derived.Outline
import Derived.Deep.Light
namespace Go.Proofs.YtghgffhcdnmpnaaGreat
open Go.RowKit
theorem info9 : (Tryz.prog.info? 9).map (fun i => (i.zero, i.size, i.bytes)) = some (some (.string ⟨#[]⟩), 1, 16) := by kernel_rfl
theorem info21 : (Tryz.prog.info? 21).map (fun i => (i.zero, i.size, i.bytes)) = some (some (.int .i32 0), 1, 4) := by kernel_rfl
theorem info5 : (Tryz.prog.info? 5).map (fun i => (i.zero, i.size, i.bytes)) = some (some (.int .u8 0), 1, 1) := by kernel_rfl
theorem mixed : Tryz.prog.follows .mixedOrders = true := by kernel_rfl
theorem sl_nil_len {w : World} {s n : Nat} {xs : List Value} (h : SlIs w s none n xs) : n = 0 ∧ xs = [] := by
  have hm : n = 0 := by
    rcases Nat.eq_zero_or_pos n with h' | h'
    · exact h'
    · obtain ⟨b, off, h, _⟩ := h.2.2 h'
      cases h
  subst hm
  exact ⟨rfl, List.eq_nil_of_length_eq_zero (by simpa using h.1)⟩

/-- append of nothing to nil. -/
theorem append_none (t e : TypeId) (ht : Tryz.prog.underlying t = some (.slice e)) {z : Value} {s bytes : Nat} (hinfo : (Tryz.prog.info? e).map (fun i => (i.zero, i.size, i.bytes)) = some (some z, s, bytes)) (A : Option Addr) (c : Nat) :
    ∀ W, (Builtin.append_ #[t, t] t #[.slice none 0 0, .slice A 0 c]).run Tryz.prog W = .ok (.slice none 0 0) W := by
  obtain ⟨i0, hi, hz0, hz1, hz2⟩ := info_parts hinfo
  intro W
  cases A <;> simp [Builtin.append_, run_underlying ht, sizeOf, typeInfo, hi, Builtin.lenOf, Builtin.firstCells, loadCells, loadCellsFrom]

theorem own_mono {w : World} {base base' : Nat} {e : TypeId} {s n : Nat} {v : Value} {xs : List Value} (h : w.ownsRow base e s v n xs) (hb : base' ≤ base) : w.ownsRow base' e s v n xs := by
  refine ⟨h.1, ?_⟩
  rcases h.2 with h2 | ⟨g, cap, cur, hv, hg, r⟩
  · exact .inl h2
  · exact .inr ⟨g, cap, cur, hv, by omega, r⟩
theorem own_form {w : World} {base : Nat} {e : TypeId} {s n : Nat} {v : Value} {xs : List Value} (h : w.ownsRow base e s v n xs) : ∃ A c, v = .slice A n c := by
  rcases h.2 with ⟨rfl, rfl⟩ | ⟨g, cap, cur, rfl, _⟩
  · exact ⟨none, 0, rfl⟩
  · exact ⟨_, cap, rfl⟩

set_option maxRecDepth 100000 in
set_option maxHeartbeats 400000 in
/-- slices.Clone, nil let in. -/
theorem clone59 (A : Option Addr) (n c : Nat) (ys : List Value) (w : World) (h : SlIs w 1 A n ys) (h1 : ∀ u ∈ ys, u.oneCell' = true) (hn : n * 16 ≤ 140737488355328) :
    Calls Tryz.prog 59 #[.slice A n c] w fun e w' => ∃ v, e = .returned v ∧ w'.ownsRow w.heap.size 9 1 v n ys ∧ Kept [] w w' := by
  cases A with
  | none =>
    obtain ⟨rfl, rfl⟩ := sl_nil_len h
    exact (Tryz.slices_Clone_nil_f59 0 c w).mono fun e w' ⟨h1, h2⟩ => ⟨_, h1, World.ownsRow_nil _ _ _ _, by subst h2; exact Kept.refl _ _⟩
  | some a =>
    have HS := Lib.hid h
    have H1 := Lib.hid h1
    clear h h1
    have heq := fun W => Lib.run_eql_slice_nil (P := Tryz.prog) W 44 9 (some a) n c 0 0 Tryz.underlying44
    go_enter Tryz.func59, Tryz.ntmps59
    go_wp2_with (at_builtin; refine wl_append rfl _ _ 44 rfl w.heap.size 9 Tryz.underlying44 info9 rfl (by decide) (.slice (some ⟨w.heap.size, 0, none⟩) 0 0) 0 [] rfl (World.ownsRow_lit _ #[] 0 (Nat.le_refl _) (by decide) rfl) (some a) n c ys rfl (HS.out.kept0 ((Kept.refl _ _).alloc _)) H1.out (by omega) (by omega) (by simp) ?_; intro v' w1 hown hk hat; have HO := Lib.hid hown; have HK := Lib.hid hk; clear hown hk hat)
    go_ret
    refine ⟨_, rfl, by simpa using HO.out, ?_⟩
    refine ((Kept.refl [] w).alloc _).trans HK.out ?_
    intro x hx
    have hx' : w.heap.size = x := by simpa [Value.ownBlock, eq_comm] using hx
    exact .inr (by omega)

set_option maxRecDepth 100000 in
set_option maxHeartbeats 400000 in
/-- slices.Clone, nil let in. -/
theorem clone60 (A : Option Addr) (n c : Nat) (ys : List Value) (w : World) (h : SlIs w 1 A n ys) (h1 : ∀ u ∈ ys, u.oneCell' = true) (hn : n * 4 ≤ 140737488355328) :
    Calls Tryz.prog 60 #[.slice A n c] w fun e w' => ∃ v, e = .returned v ∧ w'.ownsRow w.heap.size 21 1 v n ys ∧ Kept [] w w' := by
  cases A with
  | none =>
    obtain ⟨rfl, rfl⟩ := sl_nil_len h
    exact (Tryz.slices_Clone_nil_f60 0 c w).mono fun e w' ⟨h1, h2⟩ => ⟨_, h1, World.ownsRow_nil _ _ _ _, by subst h2; exact Kept.refl _ _⟩
  | some a =>
    have HS := Lib.hid h
    have H1 := Lib.hid h1
    clear h h1
    have heq := fun W => Lib.run_eql_slice_nil (P := Tryz.prog) W 49 21 (some a) n c 0 0 Tryz.underlying49
    go_enter Tryz.func60, Tryz.ntmps60
    go_wp2_with (at_builtin; refine wl_append rfl _ _ 49 rfl w.heap.size 21 Tryz.underlying49 info21 rfl (by decide) (.slice (some ⟨w.heap.size, 0, none⟩) 0 0) 0 [] rfl (World.ownsRow_lit _ #[] 0 (Nat.le_refl _) (by decide) rfl) (some a) n c ys rfl (HS.out.kept0 ((Kept.refl _ _).alloc _)) H1.out (by omega) (by omega) (by simp) ?_; intro v' w1 hown hk hat; have HO := Lib.hid hown; have HK := Lib.hid hk; clear hown hk hat)
    go_ret
    refine ⟨_, rfl, by simpa using HO.out, ?_⟩
    refine ((Kept.refl [] w).alloc _).trans HK.out ?_
    intro x hx
    have hx' : w.heap.size = x := by simpa [Value.ownBlock, eq_comm] using hx
    exact .inr (by omega)

set_option maxRecDepth 100000 in
set_option maxHeartbeats 400000 in
/-- copied: bytes of their own. -/
theorem copied_any (A : Option Addr) (n c : Nat) (ys : List Value) (w : World) (h : SlIs w 1 A n ys) (h1 : ∀ u ∈ ys, u.oneCell' = true) (hn : n ≤ 140737488355328) :
    Calls Tryz.prog 30 #[.slice A n c] w fun e w' => ∃ v, e = .returned v ∧ w'.ownsRow w.heap.size 5 1 v n ys ∧ Kept [] w w' := by
  have HS := Lib.hid h
  have H1 := Lib.hid h1
  clear h h1
  go_enter Tryz.func30, Tryz.ntmps30
  go_wp2_with (at_builtin; refine wl_append rfl _ _ 22 rfl w.heap.size 5 Tryz.underlying22 info5 rfl (by decide) (.slice (some ⟨w.heap.size, 0, none⟩) 0 0) 0 [] rfl (World.ownsRow_lit _ #[] 0 (Nat.le_refl _) (by decide) rfl) A n c ys rfl (HS.out.kept0 ((Kept.refl _ _).alloc _)) H1.out (by omega) (by omega) (by simp) ?_; intro v' w1 hown hk hat; have HO := Lib.hid hown; have HK := Lib.hid hk; clear hown hk hat)
  go_ret
  refine ⟨_, rfl, by simpa using HO.out, ?_⟩
  refine ((Kept.refl [] w).alloc _).trans HK.out ?_
  intro x hx
  have hx' : w.heap.size = x := by simpa [Value.ownBlock, eq_comm] using hx
  exact .inr (by omega)

/-! ### (Member).metadata -/
def metaF (B z : Nat) (ver gen : Int) (A2 : Option Addr) (n2 c2 : Nat) (ys : List Value) (A3 : Option Addr) (c3 : Nat) (i : Nat) (v : Value) (W : World) : Prop :=
  match i with
  | 0 => v = .pointer (some ⟨B, 1, none⟩)
  | 1 => v = .int .i16 ver
  | 2 => v = .pointer (some ⟨B, 2, none⟩)
  | 3 => v = .slice A2 n2 c2
  | 4 => W.ownsRow z 9 1 v n2 ys
  | 5 => v = .pointer (some ⟨B, 3, none⟩)
  | 6 => v = .slice A3 0 c3
  | 7 => v = .slice none 0 0
  | 8 => v = .pointer (some ⟨B, 5, none⟩)
  | 9 => v = .int .i32 gen
  | 10 => ∃ tv, v = .agg #[Value.int IntKind.i16 ver, tv, Value.slice none 0 0, Value.slice none 0 0, Value.int IntKind.i32 gen, Value.pointer none] ∧ W.ownsRow z 9 1 tv n2 ys
  | 11 => ∃ g, v = .pointer (some ⟨g, 0, none⟩) ∧ z ≤ g ∧ W.heap[g]? = some (.cells #[Value.int IntKind.i16 0, Value.slice none 0 0, Value.slice none 0 0, Value.slice none 0 0, Value.int IntKind.i32 0, Value.pointer none] 79 (0, 0))
  | _ => True

theorem own_kept0 {w w' : World} {base : Nat} {e : TypeId} {s n : Nat} {v : Value} {xs : List Value} (h : w.ownsRow base e s v n xs) (k : Kept [] w w') : w'.ownsRow base e s v n xs := k.own h (fun _ _ => by simp)

theorem metaF_stable {B z ver gen A2 n2 c2 ys A3 c3} : ∀ i v w w', metaF B z ver gen A2 n2 c2 ys A3 c3 i v w → Kept [] w w' → metaF B z ver gen A2 n2 c2 ys A3 c3 i v w' := by
  intro i v w w' h k
  unfold metaF at h ⊢
  split at h <;> try exact h
  · exact own_kept0 h k
  · obtain ⟨tv, rfl, h1⟩ := h
    exact ⟨tv, rfl, own_kept0 h1 k⟩
  · obtain ⟨g, rfl, h1, h2⟩ := h
    exact ⟨g, rfl, h1, k.heap h2 (by simp)⟩

theorem own_slice_one {w : World} {base : Nat} {e : TypeId} {s n : Nat} {v : Value} {xs : List Value} (h : w.ownsRow base e s v n xs) : v.oneCell' = true := by
  rcases h.2 with ⟨rfl, _⟩ | ⟨g, cap, cur, rfl, _⟩ <;> rfl
/-- Rows of two types lie apart. -/
theorem own_block_ne {w : World} {base : Nat} {e e' : TypeId} {s n : Nat} {v : Value} {xs : List Value} (h : w.ownsRow base e s v n xs) {g : Nat} {cs : Array Value} {fr : Nat × Nat} (hg : w.heap[g]? = some (.cells cs e' fr)) (hne : e ≠ e') : ∀ b, v.ownBlock = some b → b ≠ g := by
  rintro b hb rfl
  rcases h.2 with ⟨rfl, _⟩ | ⟨g', cap, cur, rfl, _, hh, _⟩
  · cases hb
  · have : g' = b := by simpa [Value.ownBlock] using hb
    subst this
    rw [hg] at hh
    injection hh with hh
    injection hh with _ h2
    exact hne h2.symm

set_option maxRecDepth 100000 in
set_option maxHeartbeats 800000 in
theorem metadata_any (id rack : ByteArray) (ver gen : Int) (A2 : Option Addr) (n2 c2 : Nat) (ys : List Value) (A3 : Option Addr) (c3 : Nat) (A4 : Option Addr) (c4 : Nat) (hr : Bool) (w : World)
    (h2 : SlIs w 1 A2 n2 ys) (h1 : ∀ u ∈ ys, u.oneCell' = true) (hn : n2 * 16 ≤ 140737488355328) :
    Calls Tryz.prog 41 #[.agg #[Value.string id, Value.int IntKind.i16 ver, Value.slice A2 n2 c2, Value.slice A3 0 c3, Value.slice A4 0 c4, Value.int IntKind.i32 gen, Value.string rack, Value.bool hr]] w fun e w' =>
      ∃ tv rp, e = .returned (.agg #[.int .i16 ver, tv, .slice none 0 0, .slice none 0 0, .int .i32 gen, .pointer rp]) ∧ w'.ownsRow w.heap.size 9 1 tv n2 ys ∧ Kept [] w w' := by
  have H1 := Lib.hid h1
  have H2 := Lib.hid h2
  have HN := Lib.hid hn
  clear h1 h2 hn
  go_enter Tryz.func41, Tryz.ntmps41
  go_wp2_with fail
  obtain ⟨W0, hW0⟩ : ∃ W0, W0 = ((w.alloc (Obj.cells #[Value.string id, Value.int IntKind.i16 ver, Value.slice A2 n2 c2, Value.slice A3 0 c3, Value.slice A4 0 c4, Value.int IntKind.i32 gen, Value.string rack, Value.bool hr] 46)).alloc (Obj.cells #[Value.int IntKind.i16 0, Value.slice none 0 0, Value.slice none 0 0, Value.slice none 0 0, Value.int IntKind.i32 0, Value.pointer none] 79)) := ⟨_, rfl⟩
  rw [← hW0]
  have hsz : W0.heap.size = w.heap.size + 2 := by subst hW0; simp
  have hB : W0.heap[w.heap.size]? = some (.cells #[Value.string id, Value.int IntKind.i16 ver, Value.slice A2 n2 c2, Value.slice A3 0 c3, Value.slice A4 0 c4, Value.int IntKind.i32 gen, Value.string rack, Value.bool hr] 46 (0, 0)) := by
    subst hW0
    rw [Below.heap_alloc _ _ _ (by simp), heap_alloc_new]
  have hZ0 : W0.heap[w.heap.size + 1]? = some (.cells #[Value.int IntKind.i16 0, Value.slice none 0 0, Value.slice none 0 0, Value.slice none 0 0, Value.int IntKind.i32 0, Value.pointer none] 79 (0, 0)) := by
    subst hW0
    exact heap_alloc2_new _ _ _
  have HK : Hid (Kept [] w W0) := by subst hW0; exact ((Kept.refl _ _).alloc _).alloc _
  clear hW0
  refine wp_region_facts' 12 (Kept []) (metaF w.heap.size W0.heap.size ver gen A2 n2 c2 ys A3 c3) mixed (by kernel_rfl) ((Kept.refl _ _).drew) (fun _ _ _ h k => h.trans0 k) metaF_stable ?_ ?_
  · refine ⟨?_, ?_, ?_, ?_, ?_, ?_, ?_, ?_, ?_, ?_, ?_, ?_, trivial⟩
    all_goals go_light
    all_goals intro a W hR hs hd
    all_goals have p1 : a.tmps[1]? = some (.pointer (some ⟨w.heap.size, 0, none⟩)) := hs.2.2 1 (by decide)
    all_goals have hB' := hR.heap hB (by simp)
    all_goals clear hB
    · refine ow_value (w' := W) (v := .pointer (some ⟨w.heap.size, 1, none⟩)) ?_ (.mk (Kept.refl _ _) rfl rfl)
      simp [go_sem, p1]
    · have q : _ = _ := hd.1 rfl
      have hc : W.cell? ⟨w.heap.size, 1, none⟩ = some (.int .i16 ver) := by simp [World.cell?, hB']
      refine ow_value (w' := W) (v := .int .i16 ver) ?_ (.mk (Kept.refl _ _) rfl rfl)
      simp [go_sem, q, hc]
    · refine ow_value (w' := W) (v := .pointer (some ⟨w.heap.size, 2, none⟩)) ?_ (.mk (Kept.refl _ _) rfl rfl)
      simp [go_sem, p1]
    · have q : _ = _ := hd.1 rfl
      have hc : W.cell? ⟨w.heap.size, 2, none⟩ = some (.slice A2 n2 c2) := by simp [World.cell?, hB']
      refine ow_value (w' := W) (v := .slice A2 n2 c2) ?_ (.mk (Kept.refl _ _) rfl rfl)
      simp [go_sem, q, hc]
    · have q : _ = _ := hd.1 rfl
      refine ow_call (w' := W) (f := 59) (args := #[.slice A2 n2 c2]) (by simp [go_sem, q]) (clone59 A2 n2 c2 ys W (H2.out.kept0 (HK.out.trans0 hR)) H1.out HN.out) ?_
      rintro e w'' ⟨v, rfl, h1, h3⟩
      refine ⟨_, rfl, .mk h3 ?_ rfl⟩
      exact own_mono h1 hR.size
    · refine ow_value (w' := W) (v := .pointer (some ⟨w.heap.size, 3, none⟩)) ?_ (.mk (Kept.refl _ _) rfl rfl)
      simp [go_sem, p1]
    · have q : _ = _ := hd.1 rfl
      have hc : W.cell? ⟨w.heap.size, 3, none⟩ = some (.slice A3 0 c3) := by simp [World.cell?, hB']
      refine ow_value (w' := W) (v := .slice A3 0 c3) ?_ (.mk (Kept.refl _ _) rfl rfl)
      simp [go_sem, q, hc]
    · have q : _ = _ := hd.1 rfl
      refine ow_value (w' := W) (v := .slice none 0 0) ?_ (.mk (Kept.refl _ _) rfl rfl)
      have := append_none 22 5 Tryz.underlying22 info5 A3 c3 W
      simp [execOp, resolve, invoke, builtin, Act.eval, q, this, Result.andThen]
    · refine ow_value (w' := W) (v := .pointer (some ⟨w.heap.size, 5, none⟩)) ?_ (.mk (Kept.refl _ _) rfl rfl)
      simp [go_sem, p1]
    · have q : _ = _ := hd.1 rfl
      have hc : W.cell? ⟨w.heap.size, 5, none⟩ = some (.int .i32 gen) := by simp [World.cell?, hB']
      refine ow_value (w' := W) (v := .int .i32 gen) ?_ (.mk (Kept.refl _ _) rfl rfl)
      simp [go_sem, q, hc]
    · have q1 : _ = _ := hd.1 rfl
      have q4 := hd.2.1 rfl
      have q7 : _ = _ := hd.2.2.1 rfl
      have q9 : _ = _ := hd.2.2.2.1 rfl
      obtain ⟨tv, htv⟩ : ∃ tv, a.tmps[11]?.getD undef = tv := ⟨_, rfl⟩
      change W.ownsRow W0.heap.size 9 1 (a.tmps[11]?.getD undef) n2 ys at q4
      rw [htv] at q4
      obtain ⟨A', c', rfl⟩ : ∃ A' c', tv = .slice A' n2 c' := own_form q4
      refine ow_value (w' := W) (v := .agg #[.int .i16 ver, .slice A' n2 c', .slice none 0 0, .slice none 0 0, .int .i32 gen, .pointer none]) ?_ (.mk (Kept.refl _ _) ⟨_, rfl, q4⟩ rfl)
      clear q4
      simp [go_sem, q1, htv, q7, q9]
    · refine ow_value (w' := W.alloc (Obj.cells #[Value.int IntKind.i16 0, Value.slice none 0 0, Value.slice none 0 0, Value.slice none 0 0, Value.int IntKind.i32 0, Value.pointer none] 79)) (v := .pointer (some ⟨W.heap.size, 0, none⟩)) ?_ (.mk ((Kept.refl _ _).alloc _) ⟨_, rfl, hR.size, heap_alloc_new _ _⟩ rfl)
      simp [go_sem]
  · intro f W hR hf
    obtain ⟨f0, f1, f2, f3, f4, f5, f6, f7, f8, f9, ⟨tv, f10, ho⟩, ⟨g, f11, hg1, hg2⟩, -⟩ := hf
    change f 7 = _ at f0
    change f 8 = _ at f1
    change f 9 = _ at f2
    change f 10 = _ at f3
    clear f4
    obtain ⟨x4, f4⟩ : ∃ x4, f 11 = x4 := ⟨_, rfl⟩
    change f 12 = _ at f5
    change f 13 = _ at f6
    change f 14 = _ at f7
    change f 15 = _ at f8
    change f 16 = _ at f9
    change f 17 = _ at f10
    change f 3 = _ at f11
    simp only [headDsts, List.take_succ_cons, List.take_zero, List.filterMap_cons, List.filterMap_nil, setAll, f0, f1, f2, f3, f4, f5, f6, f7, f8, f9, f10, f11, List.setIfInBounds_toArray, List.set_cons_succ, List.set_cons_zero, List.drop_succ_cons, List.drop_zero]
    clear f0 f1 f2 f3 f4 f5 f6 f7 f8 f9 f10 f11 f
    have hone := own_slice_one ho
    obtain ⟨W2, hW2⟩ : ∃ W2, W2 = W.setRow g #[Value.int IntKind.i16 ver, tv, Value.slice none 0 0, Value.slice none 0 0, Value.int IntKind.i32 gen, Value.pointer none] := ⟨_, rfl⟩
    have hlt : w.heap.size + 1 < g := by omega
    have hK2 : Kept [g] W0 W2 := by rw [hW2]; exact (hR.mono (by simp)).setRow (.inl (by simp)) _
    have hB2 : W2.heap[w.heap.size]? = some (.cells #[Value.string id, Value.int IntKind.i16 ver, Value.slice A2 n2 c2, Value.slice A3 0 c3, Value.slice A4 0 c4, Value.int IntKind.i32 gen, Value.string rack, Value.bool hr] 46 (0, 0)) := hK2.heap hB (by simp; omega)
    have hc4 : W2.cell? ⟨w.heap.size, 4, none⟩ = some (.slice A4 0 c4) := by simp [World.cell?, hB2]
    have hc6 : W2.cell? ⟨w.heap.size, 6, none⟩ = some (.string rack) := by simp [World.cell?, hB2]
    have hc7 : W2.cell? ⟨w.heap.size, 7, none⟩ = some (.bool hr) := by simp [World.cell?, hB2]
    have HZ2 : Hid (W2.heap[w.heap.size + 1]? = some (.cells #[Value.int IntKind.i16 0, Value.slice none 0 0, Value.slice none 0 0, Value.slice none 0 0, Value.int IntKind.i32 0, Value.pointer none] 79 (0, 0))) := hK2.heap hZ0 (by simp; omega)
    have hG2 : W2.heap[g]? = some (.cells #[Value.int IntKind.i16 ver, tv, Value.slice none 0 0, Value.slice none 0 0, Value.int IntKind.i32 gen, Value.pointer none] 79 (0, 0)) := by rw [hW2]; exact setRow_heap W g _ _ _ _ hg2
    have HO2 : Hid (W2.ownsRow W0.heap.size 9 1 tv n2 ys) := by
      rw [hW2]
      exact ((Kept.refl [g] W).setRow (.inl (by simp)) _).own ho (fun b hb hm => own_block_ne ho hg2 (by decide) b hb (by simpa using hm))
    have HK2 : Hid (Kept [] w W2) := by
      refine HK.out.trans hK2 (fun x hx => ?_)
      have hx' : x = g := by simpa using hx
      exact .inr (by omega)
    have hsz2 : g < W2.heap.size := (Array.getElem?_eq_some_iff.1 hG2).1
    refine wl_store_struct rfl 79 _ _ rfl (by kernel_rfl) g rfl rfl 79 _ hg2 rfl (by simpa [Value.oneCell'] using hone) ?_
    rw [← hW2]
    clear hW2 hg2 hR ho hZ0 hB hK2 hB2 HK hg1
    have HG := Lib.hid hG2
    clear hG2
    cases hr with
    | false =>
      go_wp2_with fail
      refine wp_loop_once ?_
      go_wp2_with (first | (refine wpList_load_row rfl 79 (.tmp 3) rfl g rfl 79 _ _ _ HG.out Tryz.underlying79 rfl (by kernel_rfl) ?_) | (refine wl_store_struct rfl 79 (.tmp 2) (.tmp 43) rfl (by kernel_rfl) _ rfl rfl 79 _ HZ2.out rfl (by simpa [Value.oneCell'] using hone) ?_))
      refine bodyPost_ret (results_cell_row rfl _ _ _ _ _ (0, 0) _ rfl (setRow_heap _ _ _ _ _ _ HZ2.out) Tryz.underlying79 rfl (by kernel_rfl)) rfl ⟨tv, none, rfl, ?_, ?_⟩
      · refine own_mono (((Kept.refl [w.heap.size + 1] W2).setRow (.inl (by simp)) _).own HO2.out (fun b hb hm => own_block_ne HO2.out HZ2.out (by decide) b hb (by simpa using hm))) (by omega)
      · exact HK2.out.setRow (.inr (by omega)) _
    | true =>
      have hcg : W2.cell? ⟨g, 5, none⟩ = some (.pointer none) := by rw [cell_of_row _ _ _ _ _ _ HG.out]; rfl
      have hfg : W2.frozen? ⟨g, 5, none⟩ = false := frozen_of_row _ _ _ _ _ HG.out
      obtain ⟨W3, hW3⟩ : ∃ W3, W3 = (W2.setCell ⟨g, 5, none⟩ (.pointer (some ⟨W2.heap.size, 0, none⟩))).alloc (.cells #[.string rack] 9) := ⟨_, rfl⟩
      have hsz3 : (W2.setCell ⟨g, 5, none⟩ (.pointer (some ⟨W2.heap.size, 0, none⟩))).heap.size = W2.heap.size := by simp [World.setCell]
      have HG3 : Hid (W3.heap[g]? = some (.cells #[Value.int IntKind.i16 ver, tv, Value.slice none 0 0, Value.slice none 0 0, Value.int IntKind.i32 gen, Value.pointer (some ⟨W2.heap.size, 0, none⟩)] 79 (0, 0))) := by
        rw [hW3]
        unfold Hid
        rw [Below.heap_alloc _ _ _ (by omega), heap_setCell_same _ _ _ _ _ _ HG.out]
        rfl
      have HZ3 : Hid (W3.heap[w.heap.size + 1]? = some (.cells #[Value.int IntKind.i16 0, Value.slice none 0 0, Value.slice none 0 0, Value.slice none 0 0, Value.int IntKind.i32 0, Value.pointer none] 79 (0, 0))) := by
        rw [hW3]
        unfold Hid
        rw [Below.heap_alloc _ _ _ (by omega), heap_setCell_other _ _ _ _ (by simp; omega)]
        exact HZ2.out
      have HK3 : Hid (Kept [g] W2 W3) := by
        rw [hW3]
        exact ((Kept.refl [g] W2).setCell (.inl (by simp)) _).alloc _
      have HW3 := Lib.hid hW3
      clear hW3 hsz3
      go_wp2_with fail
      refine wp_loop_once ?_
      go_wp2_with (first | (refine wpList_load_row rfl 79 (.tmp 3) rfl g rfl 79 _ _ _ (HW3.out ▸ HG3.out) Tryz.underlying79 rfl (by kernel_rfl) ?_; rw [← HW3.out]) | (refine wl_store_struct rfl 79 (.tmp 2) (.tmp 43) rfl (by kernel_rfl) _ rfl rfl 79 _ HZ3.out rfl (by simpa [Value.oneCell'] using hone) ?_))
      refine bodyPost_ret (results_cell_row rfl _ _ _ _ _ (0, 0) _ rfl (setRow_heap _ _ _ _ _ _ HZ3.out) Tryz.underlying79 rfl (by kernel_rfl)) rfl ⟨tv, some ⟨W2.heap.size, 0, none⟩, rfl, ?_, ?_⟩
      · have ho3 := HK3.out.own HO2.out (fun b hb hm => own_block_ne HO2.out HG.out (by decide) b hb (by simpa using hm))
        refine own_mono (((Kept.refl [w.heap.size + 1] W3).setRow (.inl (by simp)) _).own ho3 (fun b hb hm => own_block_ne ho3 HZ3.out (by decide) b hb (by simpa using hm))) (by omega)
      · exact (HK2.out.trans HK3.out (fun x hx => .inr (by have : x = g := by simpa using hx
                                                           omega))).setRow (.inr (by omega)) _
end Go.Proofs.YtghgffhcdnmpnaaGreat
