/-
  What GroupPlan gives by each strategy. Conditions: a group as the laws ask for it.
-/
import Derived.Test.YtghgffhcdnmpnaaGreatZK7
import Derived.Test.YtghgffhcdnmpnaaGreatZS2
import Derived.Test.YtghgffhcdnmpnaaGreatZL7
import Derived.Test.YtghgffhcdnmpnaaGreatZS3
import Derived.Test.YtghgffhcdnmpnaaGreatZC20
namespace Go.Proofs.YtghgffhcdnmpnaaGreat
open Go.RowKit Go.Sort
/-- A group, whatever the numbers of its partitions are. -/
structure GroupOk (ms : List MV) (ts : List Sh) : Prop where
  m1 : 1 ≤ ms.length
  m6 : ms.length ≤ 6
  t1 : 1 ≤ ts.length
  t6 : ts.length ≤ 6
  want : WantAll ms ts
  ids : (ms.map MV.id).Nodup
  tops : (ts.map Sh.top).Nodup
  parts : ∀ s ∈ ts, 1 ≤ s.parts.length ∧ s.parts.length ≤ 10 ∧ s.parts.Nodup
  once : ∀ m ∈ ms, m.tops.Nodup ∧ m.dn = 0 ∧ m.on = 0 ∧ m.tops.length ≤ 6
theorem Fits.ok {ms : List MV} {ts : List Sh} (h : Fits ms ts) : GroupOk ms ts where
  m1 := h.m1
  m6 := h.m6
  t1 := h.t1
  t6 := h.t6
  want := h.want
  ids := h.inodup
  tops := h.tnodup
  parts := fun s hs => by
    obtain ⟨i, hi⟩ := List.getElem?_of_mem hs
    have ht := h.tops i s hi
    refine ⟨ht.one, ht.ten, ?_⟩
    refine List.pairwise_iff_getElem.2 (fun a b ha hb hab he => ?_)
    have h1 := ht.nums a _ (List.getElem?_eq_getElem ha)
    have h2 := ht.nums b _ (List.getElem?_eq_getElem hb)
    rw [h1, h2] at he
    omega
  once := fun m hm => by
    obtain ⟨i, hi⟩ := List.getElem?_of_mem hm
    have h1 := h.mems i m hi
    refine ⟨?_, h1.data, h1.own, h1.six⟩
    have := nodup_of_get (id : ByteArray → ByteArray) (l := m.tops) h1.once
    simpa using this
theorem GroupOk.grp {ms : List MV} {ts : List Sh} {w : World} {mv tv : Value} (h : GroupOk ms ts) (hm : MemsAt w (fun x => x < w.heap.size) mv ms) (ht : ShsAt w (fun x => x < w.heap.size) tv ts) : Grp w (fun x => x < w.heap.size) mv tv ms ts where
  mems := hm
  tops := ht
  lt := fun _ hx => hx
  ids := h.ids
  six := by have := h.m6; omega
  one := h.m1
  once := fun m hm => by
    obtain ⟨h1, h2, h3, h4⟩ := h.once m hm
    exact ⟨h1, h2, h3, by omega⟩
  names := h.tops
  twelve := by have := h.t6; omega
  few := fun s hs => by
    have := (h.parts s hs).2.1
    omega
theorem GroupOk.pairs {ms : List MV} {ts : List Sh} (h : GroupOk ms ts) : (pairsOf (topList ts)).Nodup :=
  pairsOf_nodup (by rw [topList_tops]; exact h.tops) (fun x hx => by
    obtain ⟨s, hs, rfl⟩ := List.mem_map.1 hx
    exact (h.parts s hs).2.2)
theorem perm_of_sub {α : Type} [DecidableEq α] : ∀ {a b : List α}, a.Nodup → (∀ x ∈ a, x ∈ b) → b.length ≤ a.length → b.Perm a
  | [], b, _, _, hl => by
    have : b = [] := List.eq_nil_of_length_eq_zero (by simpa using hl)
    rw [this]
  | x :: a, b, hn, hs, hl => by
    have hn' := List.nodup_cons.1 hn
    have hx : x ∈ b := hs x (.head _)
    have h1 := List.perm_cons_erase hx
    have h2 : (b.erase x).Perm a := by
      refine perm_of_sub hn'.2 (fun y hy => ?_) ?_
      · have hne : y ≠ x := fun e => hn'.1 (e ▸ hy)
        exact (List.mem_erase_of_ne hne).2 (hs y (.tail _ hy))
      · rw [List.length_erase_of_mem hx]
        simp at hl
        omega
    exact h1.trans (h2.cons x)
theorem alike_all {ms : List MV} {ts : List Sh} (h : alikeB ms ts = true) : AllAll ms ts := by
  intro s hs m hm
  have h1 := List.all_eq_true.1 (List.all_eq_true.1 h s hs) m hm
  simpa [wantB] using h1
/-- What the sticky strategies ask for. -/
structure AskOk (ms : List MV) (ts : List Sh) : Prop where
  len : ∀ m ∈ ms, m.tops.length = ts.length
  all : AllAll ms ts
theorem GroupOk.preS {ms : List MV} {ts : List Sh} (h : GroupOk ms ts) (ha : AskOk ms ts) : PreS (memList ms) (topList ts) where
  one := by simpa [topList] using h.t1
  tops := fun x hx => by
    obtain ⟨s, hs, rfl⟩ := List.mem_map.1 hx
    have h1 := h.parts s hs
    exact ⟨h1.1, by show s.parts.length ≤ 10000; omega, h1.2.2⟩
  all := fun p hp => by
    obtain ⟨m, hm, rfl⟩ := List.mem_map.1 hp
    rw [topList_tops]
    refine perm_of_sub h.tops (fun t ht => ?_) ?_
    · obtain ⟨s, hs, rfl⟩ := List.mem_map.1 ht
      exact ha.all s hs m hm
    · show m.tops.length ≤ _
      rw [ha.len m hm, List.length_map]
      exact Nat.le_refl _
/-- What a plan is by a strategy. -/
def PlanOut (s : Nat) (ms : List MV) (ts : List Sh) (w : World) (e : Ending) (w' : World) : Prop :=
  ∃ (v : Value) (P : List Sh) (seq : List (ByteArray × ByteArray × Int)), e = .returned (.tuple #[v, .bool true]) ∧ ShsAt w' (fun _ => True) v P ∧ Whole ms ts P ∧ (flatP P).Perm seq ∧ (AllAll ms ts → Spread (if s = 0 then ts.length else 1) ms seq) ∧ Kept [] w w'
theorem plan_out0 {ms : List MV} {ts : List Sh} {mv tv : Value} {w : World} (h : GroupOk ms ts) (hm : MemsAt w (fun x => x < w.heap.size) mv ms) (ht : ShsAt w (fun x => x < w.heap.size) tv ts) :
    Calls Tryz.prog 20 #[.int .i64 0, mv, tv] w (PlanOut 0 ms ts w) := by
  refine (groupPlan_range _ _ _ _ _ w (h.grp hm ht)).mono ?_
  rintro e w' ⟨v, L, rfl, h1, h2, h3, h4⟩
  have hr : gives (rangeSeq (memList ms) (topList ts)) = rangePlan (memList ms) (topList ts) := gives_rangeP _ (by rw [memList_ids]; exact h.ids) _ (by rw [topList_tops]; exact h.tops)
  obtain ⟨k1, k2⟩ := whole_seq h.ids h.tops (seq := rangeSeq (memList ms) (topList ts)) (fun x hx => range_mem hx) (by rw [rangeSeq_snd (want_ids' h.want)])
  rw [hr] at k1 k2
  have h5 := own_shs h2 h3
  rw [h1] at h5
  exact ⟨v, _, _, rfl, h5, k1, k2, fun ha => range_spread h.ids ha, h4⟩
theorem askable_any (s : Nat) (hs : s < 4) (X Y : Nat → Prop) (mv tv : Value) (ms : List MV) (ts : List Sh) (w : World) (hm : MemsAt w X mv ms) (ht : ShsAt w Y tv ts) :
    Calls Tryz.prog 19 #[.int .i64 s, mv, tv] w fun e w' => ∃ b, e = .returned (.bool b) ∧ (b = true → (s = 2 ∨ s = 3 → AskOk ms ts)) ∧ Kept [] w w' := by
  by_cases h : s = 2 ∨ s = 3
  · refine (askable_sticky s h X Y mv tv ms ts w hm ht).mono ?_
    rintro e w' ⟨rfl, hk⟩
    refine ⟨_, rfl, fun hb _ => ?_, hk⟩
    simp only [Bool.and_eq_true] at hb
    refine ⟨fun m hm => ?_, alike_all hb.2⟩
    have := List.all_eq_true.1 hb.1 m hm
    simpa using this
  · refine (askable_plain s (by omega) mv tv w).mono ?_
    rintro e w' ⟨rfl, hk⟩
    exact ⟨_, rfl, fun _ h' => absurd h' h, hk⟩
end Go.Proofs.YtghgffhcdnmpnaaGreat
/-
  The walk of FnPlanOnce. Conditions: arguments that read as members and shares; a strategy of a byte.
-/
namespace Go.Proofs.YtghgffhcdnmpnaaGreat
open Go.RowKit Go.Sort
theorem kind4' {k : Int} (_h0 : 0 ≤ k) : ∃ kk : Nat, kk < 4 ∧ k % 4 = (kk : Int) := ⟨(k % 4).toNat, by omega, by omega⟩
end Go.Proofs.YtghgffhcdnmpnaaGreat
