/-
  The map of topics, as the thin package makes it. Conditions: the topics' names are different ones; no list is longer than a million.
-/
import Derived.Test.YtghgffhcdnmpnaaGreatC2
import Derived.IntWalk
namespace Go.Proofs.YtghgffhcdnmpnaaGreat
open Go.RowKit
def tmF (b B z : Nat) (top : ByteArray) (u : Value) (ps : List Int) (ix : Nat) (v : Value) (W : World) : Prop :=
  match ix with
  | 0 => v = .map (some b)
  | 1 => v = .pointer (some ⟨B, 1, none⟩)
  | 2 => v = .string top
  | 3 => v = .pointer (some ⟨B, 2, none⟩)
  | 4 => v = u
  | 5 => W.ownsRow z 21 1 v ps.length (ints ps)
  | _ => True
theorem tmF_stable {b B z top u ps} : ∀ ix v w w', tmF b B z top u ps ix v w → Kept [] w w' → tmF b B z top u ps ix v w' := by
  intro ix v w w' h k
  unfold tmF at h ⊢
  split at h <;> (first | (exact h) | (exact own_kept0 h k))

theorem keys_take {α β : Type} (f : α → β) {l : List α} (h : (l.map f).Nodup) (j : Nat) (x : α) (hj : l[j]? = some x) : f x ∉ (l.take j).map f := by
  intro hm
  have h1 : (l.map f).take (j + 1) = (l.take j).map f ++ [f x] := by
    rw [← List.map_take, List.take_add_one, hj]
    simp
  have h2 : ((l.map f).take (j + 1)).Nodup := h.sublist (List.take_sublist _ _)
  rw [h1, List.nodup_append] at h2
  exact h2.2.2 _ hm _ (.head _) rfl
theorem take_one {α : Type} {l : List α} {j : Nat} {x : α} (hj : l[j]? = some x) : l.take (j + 1) = l.take j ++ [x] := by
  rw [List.take_add_one, hj]
  rfl
theorem i64_succ {j : Nat} (h : j < 9223372036854775807) : Value.int IntKind.i64 (wrap64 ((j : Int) + 1)) = .int .i64 ((j + 1 : Nat) : Int) := by
  rw [IntWalk.wrap64_in _ (by omega)]
  rfl
theorem str9 : KeyOps Tryz.prog 9 Value.string := str_keys Tryz.underlying9
set_option maxRecDepth 100000 in
set_option maxHeartbeats 800000 in
/-- The map of topics. -/
theorem topicMap_any (X : Nat → Prop) (v : Value) (l : List Sh) (w : World) (h : ShsAt w X v l) (hnd : (l.map Sh.top).Nodup) (hsz : ∀ s ∈ l, s.parts.length ≤ 1000000) :
    Calls Tryz.prog 43 #[v] w fun e w' => ∃ b, e = .returned (.map (some b)) ∧ TmAt w' (fun x => w.heap.size ≤ x ∧ x < w'.heap.size) b (l.map fun s => (s.top, s.parts)) ∧ Kept [] w w' := by
  obtain ⟨l', rfl, ⟨A, n, c, rfl, h1, h2⟩, h3⟩ := h
  obtain rfl : n = l'.length := by have := h1.1; rw [flat_len shCells 3 (fun _ => rfl)] at this; omega
  have H2 := Lib.hid h2
  have HS := Lib.hid h1
  have H3 := Lib.hid h3
  have HSZ := Lib.hid hsz
  have HND := Lib.hid hnd
  have hmm := @run_makeMap Tryz.prog
  clear h1 h2 h3 hsz hnd
  go_enter Tryz.func43, Tryz.ntmps43
  go_wp2
  go_loopg [9] l'.length (fun k i wr => ∃ j, k = l'.length - j ∧ j ≤ l'.length ∧ i = .int .i64 j ∧ TmAt wr (fun x => w.heap.size ≤ x ∧ x < wr.heap.size) w.heap.size ((l'.take j).map fun p => (p.1.top, p.1.parts)) ∧ Kept [] w wr)
  case atStart =>
    refine ⟨0, rfl, Nat.zero_le _, rfl, ⟨⟨Nat.le_refl _, by simp⟩, [], MapIs.new _ _, rfl, by simp⟩, (Kept.refl _ _).alloc _⟩
  case round =>
    obtain ⟨j, hk, hj, rfl, ht, hK⟩ := hrel
    have HT := Lib.hid ht
    have HK := Lib.hid hK
    clear ht hK
    by_cases hlt : j < l'.length
    · have hlt' : (j : Int) < (l'.length : Int) := by omega
      obtain ⟨s, hs⟩ : ∃ s, l'[j]? = some s := ⟨_, List.getElem?_eq_getElem (by omega)⟩
      have hsm : s ∈ l' := List.mem_of_getElem? hs
      obtain ⟨b, off, rfl, hc⟩ := HS.out.2.2 (by omega)
      have hps : Hid (SlAt w X 1 s.2 (ints s.1.parts)) := H3.out s hsm
      have hpl : s.1.parts.length ≤ 1000000 := HSZ.out _ (List.mem_map.2 ⟨s, hsm, rfl⟩)
      have hg := fun i (hi : i < 3) => flat_get shCells 3 (fun _ => rfl) (by decide) l' j i hi
      have e0 : wr.cell? ⟨b, off + (j * 3 + 0), none⟩ = some (.string s.1.mem) := HK.out.cell (hc _ _ (by rw [hg 0 (by decide), hs]; rfl)) (by simp)
      have e1 : wr.cell? ⟨b, off + (j * 3 + 1), none⟩ = some (.string s.1.top) := HK.out.cell (hc _ _ (by rw [hg 1 (by decide), hs]; rfl)) (by simp)
      have e2 : wr.cell? ⟨b, off + (j * 3 + 2), none⟩ = some s.2 := HK.out.cell (hc _ _ (by rw [hg 2 (by decide), hs]; rfl)) (by simp)
      have HC : Hid (∀ i v, [Value.string s.1.mem, .string s.1.top, s.2][i]? = some v → wr.cell? ⟨b, off + j * 3 + i, none⟩ = some v) := by
        intro i v hv
        match i, hv with
        | 0, hv => rw [← Option.some.inj hv]; rw [Nat.add_assoc]; exact e0
        | 1, hv => rw [← Option.some.inj hv]; rw [Nat.add_assoc]; exact e1
        | 2, hv => rw [← Option.some.inj hv]; rw [Nat.add_assoc]; exact e2
      have hnew : s.1.top ∉ (l'.take j).map (fun p => p.1.top) := by
        have h0 := HND.out
        rw [List.map_map] at h0
        exact keys_take (fun p : Sh × Value => p.1.top) h0 j s hs
      have HNEW := Lib.hid hnew
      have HHS := Lib.hid hs
      clear hc hg e0 e1 e2 hnew hs
      have hone : s.2.oneCell' = true := by obtain ⟨_, _, _, hu, _⟩ := hps.out; rw [hu]; rfl
      go_wp2_with (first | (refine wl_load_struct rfl 53 _ rfl Tryz.underlying53 rfl rfl b (off + j * 3) rfl _ rfl HC.out ?_) | (refine wl_store_struct rfl 53 (.tmp 5) (.tmp 12) rfl (by kernel_rfl) _ rfl rfl 53 _ (heap_alloc_new _ _) rfl (by simpa [Value.oneCell'] using hone) ?_))
      dsimp only [Act.put]
      obtain ⟨W0, hW0⟩ : ∃ W0, W0 = ((wr.alloc (Obj.cells #[Value.string { data := #[] }, Value.string { data := #[] }, Value.slice none 0 0] 53)).setRow wr.heap.size #[Value.string s.1.mem, Value.string s.1.top, s.2]) := ⟨_, rfl⟩
      rw [← hW0]
      have hsz : W0.heap.size = wr.heap.size + 1 := by subst hW0; simp
      have hB : W0.heap[wr.heap.size]? = some (.cells #[Value.string s.1.mem, Value.string s.1.top, s.2] 53 (0, 0)) := by
        subst hW0
        exact setRow_heap _ _ _ _ _ _ (heap_alloc_new _ _)
      have hKW : Kept [] wr W0 := by subst hW0; exact ((Kept.refl _ _).alloc _).setRow (.inr (Nat.le_refl _)) _
      clear hW0
      have HK0 : Hid (Kept [] w W0) := HK.out.trans0 hKW
      have HT0 : Hid (TmAt W0 (fun x => w.heap.size ≤ x ∧ x < wr.heap.size) w.heap.size ((l'.take j).map fun p => (p.1.top, p.1.parts))) := HT.out.kept0 hKW
      have hps0 : Hid (SlAt W0 X 1 s.2 (ints s.1.parts)) := hps.out.kept0 (HK.out.trans0 hKW)
      clear HT hps
      refine wp_region_facts' 6 (Kept []) (tmF w.heap.size wr.heap.size W0.heap.size s.1.top s.2 s.1.parts) mixed (by kernel_rfl) ((Kept.refl _ _).drew) (fun _ _ _ h k => h.trans0 k) tmF_stable ?_ ?_
      · refine ⟨?_, ?_, ?_, ?_, ?_, ?_, trivial⟩
        all_goals go_light
        all_goals intro a W hR hs hd
        all_goals have p3 : a.tmps[3]? = some (.map (some w.heap.size)) := hs.2.2 3 (by decide)
        all_goals have p5 : a.tmps[5]? = some (.pointer (some ⟨wr.heap.size, 0, none⟩)) := hs.2.2 5 (by decide)
        all_goals have hRr := Kept.refl [] W
        all_goals have hB' := hR.heap hB (by simp)
        all_goals have hc1 : W.cell? ⟨wr.heap.size, 1, none⟩ = some (.string s.1.top) := by simp [World.cell?, hB']
        all_goals have hc2 : W.cell? ⟨wr.heap.size, 2, none⟩ = some s.2 := by simp [World.cell?, hB']
        all_goals clear hB hB'
        · refine ow_value (w' := W) (v := .map (some w.heap.size)) ?_ (.mk hRr rfl rfl)
          simp [go_sem, p3]
        · refine ow_value (w' := W) (v := .pointer (some ⟨wr.heap.size, 1, none⟩)) ?_ (.mk hRr rfl rfl)
          simp [go_sem, p5]
        · have q1 : _ = _ := hd.1 rfl
          refine ow_value (w' := W) (v := .string s.1.top) ?_ (.mk hRr rfl rfl)
          simp [go_sem, q1, hc1]
        · refine ow_value (w' := W) (v := .pointer (some ⟨wr.heap.size, 2, none⟩)) ?_ (.mk hRr rfl rfl)
          simp [go_sem, p5]
        · have q3 : _ = _ := hd.1 rfl
          refine ow_value (w' := W) (v := s.2) ?_ (.mk hRr rfl rfl)
          simp [go_sem, q3, hc2]
        · have q4 : _ = _ := hd.1 rfl
          obtain ⟨A1, n1, c1, hu, hsl, _, _⟩ := hps0.out.kept0 hR
          have hln1 : n1 = s.1.parts.length := by have := hsl.1; simp [ints] at this; omega
          subst hln1
          rw [hu] at q4
          refine ow_call (w' := W) (f := 60) (args := #[.slice A1 s.1.parts.length c1]) (by simp [go_sem, q4]) (clone60 A1 _ c1 _ W hsl (ints_one _) (by omega)) ?_
          rintro e w'' ⟨v, rfl, h1, h3⟩
          exact ⟨_, rfl, .mk h3 (own_mono h1 hR.size) rfl⟩
      · intro f W hR hf
        obtain ⟨f0, f1, f2, f3, f4, f5, -⟩ := hf
        change f 13 = _ at f0
        change f 14 = _ at f1
        change f 15 = _ at f2
        change f 16 = _ at f3
        change f 17 = _ at f4
        change W.ownsRow W0.heap.size 21 1 (f 18) s.1.parts.length (ints s.1.parts) at f5
        obtain ⟨x5, g5⟩ : ∃ x, f 18 = x := ⟨_, rfl⟩
        rw [g5] at f5
        simp only [headDsts, List.take_succ_cons, List.take_zero, List.filterMap_cons, List.filterMap_nil, setAll, f0, f1, f2, f3, f4, g5, List.setIfInBounds_toArray, List.set_cons_succ, List.set_cons_zero, List.drop_succ_cons, List.drop_zero]
        clear f0 f1 f2 f3 f4 g5 f

        have hszW := hR.size
        obtain ⟨hX0, m, hM, hml, hmv⟩ := HT0.out.kept0 hR
        refine wl_update rfl _ _ _ 89 rfl 49 Tryz.underlying89 str9 w.heap.size _ rfl hM s.1.top rfl x5 rfl ?_
        intro w2 hM2 hK2 hs2
        have hbk : w.heap.size < wr.heap.size := hX0.2
        have hmg : mget (m.map fun e => (e.1, e.2.1)) s.1.top = none := by
          refine mget_none_iff.2 ?_
          rw [List.map_map]
          intro hh
          refine HNEW.out ?_
          have h9 := congrArg (List.map Prod.fst) hml
          rw [List.map_map, List.map_map] at h9
          rw [show (List.take j l').map (fun p => p.1.top) = m.map (Prod.fst ∘ fun e => (e.fst, e.snd.snd)) from h9.symm]
          exact hh
        rw [mset_new _ hmg] at hM2
        have ho2 : w2.ownsRow W0.heap.size 21 1 x5 s.1.parts.length (ints s.1.parts) := hK2.own f5 (fun g hg hm => by
          have hgg : W0.heap.size ≤ g := by
            rcases f5.2 with ⟨rfl, _⟩ | ⟨g', cap, cur, rfl, hb', _⟩
            · cases hg
            · have : g' = g := by simpa [Value.ownBlock] using hg
              omega
          simp at hm
          omega)
        have HT2 : Hid (TmAt w2 (fun x => w.heap.size ≤ x ∧ x < w2.heap.size) w.heap.size ((l'.take (j + 1)).map fun p => (p.1.top, p.1.parts))) := by
          refine ⟨⟨Nat.le_refl _, by omega⟩, m ++ [(s.1.top, x5, s.1.parts)], by simpa using hM2, ?_, ?_⟩
          · rw [take_one HHS.out, List.map_append, List.map_append, hml]
            rfl
          · intro e he
            rcases List.mem_append.1 he with he | he
            · refine ((hmv e he).kept hK2 ?_).mono ?_
              · intro x hx; simpa using hx.2
              · intro x hx; have := hx.1; exact ⟨⟨this.1, by omega⟩, hx.2⟩
            · have : e = (s.1.top, x5, s.1.parts) := by simpa using he
              subst this
              exact (SlAt.own ho2).mono (fun x hx => ⟨⟨by omega, hx.2.2⟩, by omega⟩)
        have HK2 : Hid (Kept [] w w2) := (HK0.out.trans0 hR).trans hK2 (fun x hx => .inr (by simp at hx; omega))
        clear hM hml hmv hM2 hK2 hmg ho2 f5 hR HT0 HK0 hps0 hB hKW HK
        go_wp2
        have hwr : Value.int IntKind.i64 (wrap64 ((j : Int) + 1)) = .int .i64 ((j + 1 : Nat) : Int) := i64_succ (by have := HS.out.2.1; omega)
        go_roundg (l'.length - (j + 1))
        case measure => omega
        case rel => exact ⟨j + 1, rfl, by omega, hwr, HT2.out, HK2.out⟩
    · have hjn : j = l'.length := by omega
      have hlt' : ¬ (j : Int) < (l'.length : Int) := by omega
      have HT2 : Hid (TmAt wr (fun x => w.heap.size ≤ x ∧ x < wr.heap.size) w.heap.size ((l'.map Prod.fst).map fun s => (s.top, s.parts))) := by
        have := HT.out
        rw [hjn, List.take_length] at this
        rw [List.map_map]
        exact this
      clear HT
      go_wp2
      go_ret
      exact ⟨_, rfl, by simpa using HT2.out, HK.out⟩

end Go.Proofs.YtghgffhcdnmpnaaGreat
