/-
  Plans in memory: what a plan holds; that a member comes; that a member has more of a topic.
-/
import Derived.Test.YtghgffhcdnmpnaaGreatC3
import Derived.Test.YtghgffhcdnmpnaaGreatR1
namespace Go.Proofs.YtghgffhcdnmpnaaGreat
open Go.RowKit

/-! ### A plan in memory -/
def upd {β : Type} (f : ByteArray → β) (k : ByteArray) (v : β) : ByteArray → β := fun x => if x = k then v else f x
def upd2 {β : Type} (f : ByteArray → ByteArray → β) (k t : ByteArray) (v : β) : ByteArray → ByteArray → β := fun x y => if x = k ∧ y = t then v else f x y
theorem upd_same {β : Type} (f : ByteArray → β) (k : ByteArray) (v : β) : upd f k v k = v := by simp [upd]
theorem upd_other {β : Type} (f : ByteArray → β) {k x : ByteArray} (v : β) (h : x ≠ k) : upd f k v x = f x := by simp [upd, h]

/-- A plan: the map b of members to maps of topics to numbers; ks: its members; I: where each one's map lies; M: what stands in it; f: the numbers; S: all its memory. -/
structure PlanWith (w : World) (S : List Nat) (b : Nat) (f : ByteArray → ByteArray → List Int) (ks : List ByteArray) (I : ByteArray → Nat) (M : ByteArray → List (ByteArray × Value)) : Prop where
  bS : b ∈ S
  outer : MapIs Value.string w b (ks.map fun k => (k, Value.map (some (I k))))
  inner : ∀ k ∈ ks, MapIs Value.string w (I k) (M k)
  innerS : ∀ k ∈ ks, I k ∈ S ∧ I k ≠ b
  apart : ∀ k ∈ ks, ∀ k' ∈ ks, I k = I k' → k = k'
  rows : ∀ k ∈ ks, ∀ t u, (t, u) ∈ M k → w.ownsRow 0 21 1 u (f k t).length (ints (f k t))
  rowsS : ∀ k ∈ ks, ∀ t u, (t, u) ∈ M k → ∀ g, u.ownBlock = some g → g ∈ S
  rapart : ∀ k ∈ ks, ∀ k' ∈ ks, ∀ t u t' u' g, (t, u) ∈ M k → (t', u') ∈ M k' → u.ownBlock = some g → u'.ownBlock = some g → k = k' ∧ t = t'
  nil : ∀ k t, (k ∈ ks → t ∉ (M k).map Prod.fst) → f k t = []
def PlanIs (w : World) (S : List Nat) (b : Nat) (f : ByteArray → ByteArray → List Int) : Prop := ∃ ks I M, PlanWith w S b f ks I M

theorem own_map_ne {κ : Type} {enc : κ → Value} {w : World} {base : Nat} {e : TypeId} {s n : Nat} {v : Value} {xs : List Value} {b : Nat} {m : List (κ × Value)} (h : w.ownsRow base e s v n xs) (hm : MapIs enc w b m) : ∀ g, v.ownBlock = some g → g ≠ b := by
  rintro g hg rfl
  obtain ⟨es, cl, hb, _⟩ := hm
  rcases h.2 with ⟨rfl, _⟩ | ⟨g', cap, cur, rfl, _, hh, _⟩
  · cases hg
  · have : g' = g := by simpa [Value.ownBlock] using hg
    subst this
    rw [hb] at hh
    cases hh
theorem own_lt {w : World} {base : Nat} {e : TypeId} {s n : Nat} {v : Value} {xs : List Value} (h : w.ownsRow base e s v n xs) : ∀ g, v.ownBlock = some g → g < w.heap.size := by
  intro g hg
  rcases h.2 with ⟨rfl, _⟩ | ⟨g', cap, cur, rfl, _, hh, _⟩
  · cases hg
  · have : g' = g := by simpa [Value.ownBlock] using hg
    subst this
    exact (Array.getElem?_eq_some_iff.1 hh).1
theorem mget_outer (I : ByteArray → Nat) {k : ByteArray} : ∀ {ks : List ByteArray}, k ∈ ks → mget (ks.map fun k => (k, Value.map (some (I k)))) k = some (Value.map (some (I k)))
  | x :: ks, h => by
    by_cases hx : x = k
    · subst hx
      simp [mget]
    · have h' : k ∈ ks := (List.mem_cons.1 h).resolve_left (fun e => hx e.symm)
      simp [mget, hx, mget_outer I h']
theorem mget_outer_none (I : ByteArray → Nat) {k : ByteArray} {ks : List ByteArray} (h : k ∉ ks) : mget (ks.map fun k => (k, Value.map (some (I k)))) k = none :=
  mget_none_iff.2 (by simpa [List.map_map, Function.comp_def] using h)

theorem PlanWith.kept {w w' : World} {S T : List Nat} {b : Nat} {f : ByteArray → ByteArray → List Int} {ks : List ByteArray} {I : ByteArray → Nat} {M : ByteArray → List (ByteArray × Value)} (h : PlanWith w S b f ks I M) (k : Kept T w w') (hT : ∀ x, x ∈ S → x ∉ T) : PlanWith w' S b f ks I M where
  bS := h.bS
  outer := h.outer.kept k (hT _ h.bS)
  inner := fun x hx => (h.inner x hx).kept k (hT _ (h.innerS x hx).1)
  innerS := h.innerS
  apart := h.apart
  rows := fun x hx t u hu => k.own (h.rows x hx t u hu) (fun g hg => hT _ (h.rowsS x hx t u hu g hg))
  rowsS := h.rowsS
  rapart := h.rapart
  nil := h.nil
theorem PlanIs.kept {w w' : World} {S T : List Nat} {b : Nat} {f : ByteArray → ByteArray → List Int} (h : PlanIs w S b f) (k : Kept T w w') (hT : ∀ x, x ∈ S → x ∉ T) : PlanIs w' S b f := by
  obtain ⟨ks, I, M, h⟩ := h
  exact ⟨ks, I, M, h.kept k hT⟩
/-- An empty plan. -/
theorem PlanIs.new {w : World} {b : Nat} (h : MapIs Value.string w b []) : PlanIs w [b] b (fun _ _ => []) :=
  ⟨[], fun _ => 0, fun _ => [], by simp, h, by simp, by simp, by simp, by simp, by simp, by simp, fun _ _ _ => rfl⟩

/-- A member comes. -/
theorem PlanWith.member {w w' : World} {S : List Nat} {b nb : Nat} {f : ByteArray → ByteArray → List Int} {ks : List ByteArray} {I : ByteArray → Nat} {M : ByteArray → List (ByteArray × Value)} (h : PlanWith w S b f ks I M) (k : ByteArray) (hk : k ∉ ks)
    (h1 : MapIs Value.string w' b (ks.map (fun k => (k, Value.map (some (I k)))) ++ [(k, .map (some nb))])) (h2 : MapIs Value.string w' nb []) (h3 : Kept [b] w w') (h4 : w.heap.size ≤ nb) :
    PlanWith w' (nb :: S) b f (ks ++ [k]) (upd I k nb) (upd M k []) := by
  have hne : ∀ x ∈ ks, x ≠ k := fun x hx e => hk (e ▸ hx)
  have hIlt : ∀ x ∈ ks, I x < w.heap.size := fun x hx => (h.inner x hx).lt
  have hold : ∀ x ∈ ks ++ [k], (x ∈ ks ∧ x ≠ k) ∨ x = k := by
    intro x hx
    rcases List.mem_append.1 hx with hx | hx
    · exact .inl ⟨hx, hne x hx⟩
    · exact .inr (by simpa using hx)
  refine ⟨.tail _ h.bS, ?_, ?_, ?_, ?_, ?_, ?_, ?_, ?_⟩
  · rw [List.map_append, List.map_cons, List.map_nil, upd_same]
    rw [show List.map (fun k' => (k', Value.map (some (upd I k nb k')))) ks = ks.map (fun k => (k, Value.map (some (I k)))) from List.map_congr_left (fun x hx => by rw [upd_other _ _ (hne x hx)])]
    exact h1
  · intro x hx
    rcases hold x hx with ⟨hx, hxk⟩ | rfl
    · rw [upd_other _ _ hxk, upd_other _ _ hxk]
      exact (h.inner x hx).kept h3 (by simpa using (h.innerS x hx).2)
    · rw [upd_same, upd_same]
      exact h2
  · intro x hx
    rcases hold x hx with ⟨hx, hxk⟩ | rfl
    · rw [upd_other _ _ hxk]
      exact ⟨.tail _ (h.innerS x hx).1, (h.innerS x hx).2⟩
    · rw [upd_same]
      exact ⟨.head _, by have := h.outer.lt; omega⟩
  · intro x hx y hy
    rcases hold x hx with ⟨hx1, hxk⟩ | rfl <;> rcases hold y hy with ⟨hy1, hyk⟩ | rfl
    · rw [upd_other _ _ hxk, upd_other _ _ hyk]
      exact h.apart x hx1 y hy1
    · rw [upd_other _ _ hxk, upd_same]
      intro e
      have := hIlt x hx1
      omega
    · rw [upd_other _ _ hyk, upd_same]
      intro e
      have := hIlt y hy1
      omega
    · exact fun _ => rfl
  · intro x hx t u hu
    rcases hold x hx with ⟨hx, hxk⟩ | rfl
    · rw [upd_other _ _ hxk] at hu
      exact h3.own (h.rows x hx t u hu) (fun g hg => by simpa using own_map_ne (h.rows x hx t u hu) h.outer g hg)
    · rw [upd_same] at hu
      cases hu
  · intro x hx t u hu g hg
    rcases hold x hx with ⟨hx, hxk⟩ | rfl
    · rw [upd_other _ _ hxk] at hu
      exact .tail _ (h.rowsS x hx t u hu g hg)
    · rw [upd_same] at hu
      cases hu
  · intro x hx y hy t u t' u' g hu hu'
    rcases hold x hx with ⟨hx1, hxk⟩ | rfl <;> rcases hold y hy with ⟨hy1, hyk⟩ | rfl
    · rw [upd_other _ _ hxk] at hu
      rw [upd_other _ _ hyk] at hu'
      exact h.rapart x hx1 y hy1 t u t' u' g hu hu'
    · rw [upd_same] at hu'
      cases hu'
    · rw [upd_same] at hu
      cases hu
    · rw [upd_same] at hu
      cases hu
  · intro x t hx
    by_cases hxk : x = k
    · subst hxk
      exact h.nil x t (fun hh => absurd hh hk)
    · refine h.nil x t (fun hh => ?_)
      have := hx (List.mem_append_left _ hh)
      rwa [upd_other _ _ hxk] at this

/-- The row of a member and a topic; nil where there is none. -/
theorem PlanWith.row {w : World} {S : List Nat} {b : Nat} {f : ByteArray → ByteArray → List Int} {ks : List ByteArray} {I : ByteArray → Nat} {M : ByteArray → List (ByteArray × Value)} (h : PlanWith w S b f ks I M) {k : ByteArray} (hk : k ∈ ks) (t : ByteArray) :
    w.ownsRow 0 21 1 ((mget (M k) t).getD (.slice none 0 0)) (f k t).length (ints (f k t)) ∧ ∀ g, ((mget (M k) t).getD (.slice none 0 0)).ownBlock = some g → g ∈ S := by
  cases hm : mget (M k) t with
  | none =>
    rw [h.nil k t (fun _ => mget_none_iff.1 hm)]
    exact ⟨World.ownsRow_nil _ _ _ _, fun g hg => by cases hg⟩
  | some u => exact ⟨h.rows k hk t u (mem_of_mget hm), h.rowsS k hk t u (mem_of_mget hm)⟩

theorem mem_mset {m : List (ByteArray × Value)} {k t : ByteArray} {v u : Value} (hn : (m.map Prod.fst).Nodup) (h : (t, u) ∈ mset m k v) : (t = k ∧ u = v) ∨ (t ≠ k ∧ (t, u) ∈ m) := by
  have hn' : ((mset m k v).map Prod.fst).Nodup := by
    rw [keys_mset]
    split
    · exact hn
    · rename_i hk
      rw [List.nodup_append]
      exact ⟨hn, List.nodup_cons.2 ⟨by simp, List.nodup_nil⟩, fun a ha b hb => by
        have : b = k := by simpa using hb
        subst this
        exact fun e => hk (e ▸ ha)⟩
  have hg := mget_of_mem hn' h
  by_cases htk : t = k
  · subst htk
    rw [mget_mset_same] at hg
    exact .inl ⟨rfl, (Option.some.inj hg).symm⟩
  · rw [mget_mset_other _ htk] at hg
    exact .inr ⟨htk, mem_of_mget hg⟩

/-- A member has more of a topic. -/
theorem PlanWith.add {w w1 w2 : World} {S : List Nat} {b : Nat} {f : ByteArray → ByteArray → List Int} {ks : List ByteArray} {I : ByteArray → Nat} {M : ByteArray → List (ByteArray × Value)} (h : PlanWith w S b f ks I M) {k : ByteArray} (hk : k ∈ ks) (t : ByteArray) (v : Value) (zs : List Int)
    (hrow : w1.ownsRow 0 21 1 v zs.length (ints zs)) (hk1 : Kept ((mget (M k) t).getD (.slice none 0 0)).ownBlock.toList w w1) (hv : v.ownBlock = ((mget (M k) t).getD (.slice none 0 0)).ownBlock ∨ ∃ g, v.ownBlock = some g ∧ w.heap.size ≤ g)
    (hm : MapIs Value.string w2 (I k) (mset (M k) t v)) (hk2 : Kept [I k] w1 w2) :
    PlanWith w2 (v.ownBlock.toList ++ S) b (upd2 f k t zs) ks I (upd M k (mset (M k) t v)) := by
  have hr := h.row hk t
  obtain ⟨u0, hu0⟩ : ∃ u0, (mget (M k) t).getD (.slice none 0 0) = u0 := ⟨_, rfl⟩
  rw [hu0] at hr hk1 hv
  have hb0 : b ∉ u0.ownBlock.toList := fun hm => own_map_ne hr.1 h.outer b (by simpa using hm) rfl
  have hi0 : ∀ x ∈ ks, I x ∉ u0.ownBlock.toList := fun x hx hm => own_map_ne hr.1 (h.inner x hx) (I x) (by simpa using hm) rfl
  have hI1 : ∀ x ∈ ks, MapIs Value.string w1 (I x) (M x) := fun x hx => (h.inner x hx).kept hk1 (hi0 x hx)
  have hnd := (h.inner k hk).nodup
  -- an older row outlives both
  have hother : ∀ x ∈ ks, ∀ s u, (s, u) ∈ M x → ¬ (x = k ∧ s = t) → w2.ownsRow 0 21 1 u (f x s).length (ints (f x s)) := by
    intro x hx s u hu hne
    have h0 := h.rows x hx s u hu
    have h1 : w1.ownsRow 0 21 1 u (f x s).length (ints (f x s)) := hk1.own h0 (fun g hg hm => by
      have hm' : u0.ownBlock = some g := by simpa using hm
      cases hmg : mget (M k) t with
      | none =>
        rw [hmg] at hu0
        subst hu0
        cases hm'
      | some u1 =>
        rw [hmg] at hu0
        have hu0 : u1 = u0 := hu0
        subst hu0
        exact hne (h.rapart x hx k hk s u t u1 g hu (mem_of_mget hmg) hg hm'))
    exact hk2.own h1 (fun g hg => by simpa using own_map_ne h1 (hI1 k hk) g hg)
  have hnew : w2.ownsRow 0 21 1 v zs.length (ints zs) := hk2.own hrow (fun g hg => by simpa using own_map_ne hrow (hI1 k hk) g hg)
  -- the new row lies apart
  have hvap : ∀ x ∈ ks, ∀ s u g, (s, u) ∈ M x → v.ownBlock = some g → u.ownBlock = some g → x = k ∧ s = t := by
    intro x hx s u g hu hv' hg
    rcases hv with hv | ⟨g', hv, hge⟩
    · rw [hv'] at hv
      cases hmg : mget (M k) t with
      | none =>
        rw [hmg] at hu0
        subst hu0
        cases hv
      | some u1 =>
        rw [hmg] at hu0
        have hu0 : u1 = u0 := hu0
        subst hu0
        exact h.rapart x hx k hk s u t u1 g hu (mem_of_mget hmg) hg hv.symm
    · have := own_lt (h.rows x hx s u hu) g hg
      rw [hv'] at hv
      have : g = g' := Option.some.inj hv
      omega
  have hmem : ∀ x ∈ ks, ∀ s u, (s, u) ∈ upd M k (mset (M k) t v) x → (x = k ∧ s = t ∧ u = v) ∨ (¬ (x = k ∧ s = t) ∧ (s, u) ∈ M x) := by
    intro x hx s u hu
    by_cases hxk : x = k
    · subst hxk
      rw [upd_same] at hu
      rcases mem_mset hnd hu with ⟨rfl, rfl⟩ | ⟨h1, h2⟩
      · exact .inl ⟨rfl, rfl, rfl⟩
      · exact .inr ⟨fun hh => h1 hh.2, h2⟩
    · rw [upd_other _ _ hxk] at hu
      exact .inr ⟨fun hh => hxk hh.1, hu⟩
  refine ⟨List.mem_append_right _ h.bS, (h.outer.kept hk1 hb0).kept hk2 (by simpa using Ne.symm (h.innerS k hk).2), ?_, ?_, h.apart, ?_, ?_, ?_, ?_⟩
  · intro x hx
    by_cases hxk : x = k
    · subst hxk
      rw [upd_same]
      exact hm
    · rw [upd_other _ _ hxk]
      exact (hI1 x hx).kept hk2 (by simpa using fun e => hxk (h.apart x hx k hk e))
  · intro x hx
    exact ⟨List.mem_append_right _ (h.innerS x hx).1, (h.innerS x hx).2⟩
  · intro x hx s u hu
    rcases hmem x hx s u hu with ⟨rfl, rfl, rfl⟩ | ⟨hne, hu⟩
    · simpa [upd2] using hnew
    · have := hother x hx s u hu hne
      simpa [upd2, hne] using this
  · intro x hx s u hu g hg
    rcases hmem x hx s u hu with ⟨rfl, rfl, rfl⟩ | ⟨hne, hu⟩
    · exact List.mem_append_left _ (by simpa using hg)
    · exact List.mem_append_right _ (h.rowsS x hx s u hu g hg)
  · intro x hx y hy s u s' u' g hu hu' hg hg'
    rcases hmem x hx s u hu with ⟨e1, e2, e3⟩ | ⟨hne, hu1⟩ <;> rcases hmem y hy s' u' hu' with ⟨e4, e5, e6⟩ | ⟨hne', hu2⟩
    · exact ⟨e1.trans e4.symm, e2.trans e5.symm⟩
    · have := hvap y hy s' u' g hu2 (e3 ▸ hg) hg'
      exact ⟨e1.trans this.1.symm, e2.trans this.2.symm⟩
    · have := hvap x hx s u g hu1 (e6 ▸ hg') hg
      exact ⟨this.1.trans e4.symm, this.2.trans e5.symm⟩
    · exact h.rapart x hx y hy s u s' u' g hu1 hu2 hg hg'
  · intro x s hx
    by_cases hxs : x = k ∧ s = t
    · obtain ⟨rfl, rfl⟩ := hxs
      refine absurd ?_ (hx hk)
      rw [upd_same, keys_mset]
      split <;> simp_all
    · rw [show upd2 f k t zs x s = f x s by simp [upd2, hxs]]
      refine h.nil x s (fun hh hin => hx hh ?_)
      by_cases hxk : x = k
      · subst hxk
        rw [upd_same, keys_mset]
        split
        · exact hin
        · exact List.mem_append_left _ hin
      · rwa [upd_other _ _ hxk]


end Go.Proofs.YtghgffhcdnmpnaaGreat
