/-
  Plans in memory: what a plan holds; that a member comes; that a member has more of a topic.
-/
import Derived.Test.YtghgffhcdnmpnaaGreatZC1
import Derived.Test.YtghgffhcdnmpnaaGreatZB0
namespace Go.Proofs.YtghgffhcdnmpnaaGreat
open Go.RowKit

/-! ### A plan in memory -/
def upd {β : Type} (f : ByteArray → β) (k : ByteArray) (v : β) : ByteArray → β := fun x => if x = k then v else f x
def upd2 {β : Type} (f : ByteArray → ByteArray → β) (k t : ByteArray) (v : β) : ByteArray → ByteArray → β := fun x y => if x = k ∧ y = t then v else f x y
theorem upd_same {β : Type} (f : ByteArray → β) (k : ByteArray) (v : β) : upd f k v k = v := by simp [upd]
theorem upd_other {β : Type} (f : ByteArray → β) {k x : ByteArray} (v : β) (h : x ≠ k) : upd f k v x = f x := by simp [upd, h]

/-- A plan: the map b of members to maps of topics to numbers; ks: its members; I: where each one's map lies; M: what stands in it; f: the numbers; S: all its memory. -/
structure PlanWith (w : World) (S : List Nat) (b : Nat) (f : ByteArray → ByteArray → List Int) (ks : List ByteArray) (I : ByteArray → Nat) (M : ByteArray → List (ByteArray × Value)) : Prop where
  bS : b ∈ S
  outer : MapIs Value.string w b (ks.map fun k => (k, Value.map (some (I k))))
  inner : ∀ k ∈ ks, MapIs Value.string w (I k) (M k)
  innerS : ∀ k ∈ ks, I k ∈ S ∧ I k ≠ b
  apart : ∀ k ∈ ks, ∀ k' ∈ ks, I k = I k' → k = k'
  rows : ∀ k ∈ ks, ∀ t u, (t, u) ∈ M k → w.ownsRow 0 21 1 u (f k t).length (ints (f k t))
  rowsS : ∀ k ∈ ks, ∀ t u, (t, u) ∈ M k → ∀ g, u.ownBlock = some g → g ∈ S
  rapart : ∀ k ∈ ks, ∀ k' ∈ ks, ∀ t u t' u' g, (t, u) ∈ M k → (t', u') ∈ M k' → u.ownBlock = some g → u'.ownBlock = some g → k = k' ∧ t = t'
  nil : ∀ k t, (k ∈ ks → t ∉ (M k).map Prod.fst) → f k t = []
def PlanIs (w : World) (S : List Nat) (b : Nat) (f : ByteArray → ByteArray → List Int) : Prop := ∃ ks I M, PlanWith w S b f ks I M

theorem own_map_ne {κ : Type} {enc : κ → Value} {w : World} {base : Nat} {e : TypeId} {s n : Nat} {v : Value} {xs : List Value} {b : Nat} {m : List (κ × Value)} (h : w.ownsRow base e s v n xs) (hm : MapIs enc w b m) : ∀ g, v.ownBlock = some g → g ≠ b := by
  rintro g hg rfl
  obtain ⟨es, cl, hb, _⟩ := hm
  rcases h.2 with ⟨rfl, _⟩ | ⟨g', cap, cur, rfl, _, hh, _⟩
  · cases hg
  · have : g' = g := by simpa [Value.ownBlock] using hg
    subst this
    rw [hb] at hh
    cases hh
theorem own_lt {w : World} {base : Nat} {e : TypeId} {s n : Nat} {v : Value} {xs : List Value} (h : w.ownsRow base e s v n xs) : ∀ g, v.ownBlock = some g → g < w.heap.size := by
  intro g hg
  rcases h.2 with ⟨rfl, _⟩ | ⟨g', cap, cur, rfl, _, hh, _⟩
  · cases hg
  · have : g' = g := by simpa [Value.ownBlock] using hg
    subst this
    exact (Array.getElem?_eq_some_iff.1 hh).1
theorem mget_outer (I : ByteArray → Nat) {k : ByteArray} : ∀ {ks : List ByteArray}, k ∈ ks → mget (ks.map fun k => (k, Value.map (some (I k)))) k = some (Value.map (some (I k)))
  | x :: ks, h => by
    by_cases hx : x = k
    · subst hx
      simp [mget]
    · have h' : k ∈ ks := (List.mem_cons.1 h).resolve_left (fun e => hx e.symm)
      simp [mget, hx, mget_outer I h']
theorem mget_outer_none (I : ByteArray → Nat) {k : ByteArray} {ks : List ByteArray} (h : k ∉ ks) : mget (ks.map fun k => (k, Value.map (some (I k)))) k = none :=
  mget_none_iff.2 (by simpa [List.map_map, Function.comp_def] using h)

theorem PlanWith.kept {w w' : World} {S T : List Nat} {b : Nat} {f : ByteArray → ByteArray → List Int} {ks : List ByteArray} {I : ByteArray → Nat} {M : ByteArray → List (ByteArray × Value)} (h : PlanWith w S b f ks I M) (k : Kept T w w') (hT : ∀ x, x ∈ S → x ∉ T) : PlanWith w' S b f ks I M where
  bS := h.bS
  outer := h.outer.kept k (hT _ h.bS)
  inner := fun x hx => (h.inner x hx).kept k (hT _ (h.innerS x hx).1)
  innerS := h.innerS
  apart := h.apart
  rows := fun x hx t u hu => k.own (h.rows x hx t u hu) (fun g hg => hT _ (h.rowsS x hx t u hu g hg))
  rowsS := h.rowsS
  rapart := h.rapart
  nil := h.nil
theorem PlanIs.kept {w w' : World} {S T : List Nat} {b : Nat} {f : ByteArray → ByteArray → List Int} (h : PlanIs w S b f) (k : Kept T w w') (hT : ∀ x, x ∈ S → x ∉ T) : PlanIs w' S b f := by
  obtain ⟨ks, I, M, h⟩ := h
  exact ⟨ks, I, M, h.kept k hT⟩
/-- An empty plan. -/
theorem PlanIs.new {w : World} {b : Nat} (h : MapIs Value.string w b []) : PlanIs w [b] b (fun _ _ => []) :=
  ⟨[], fun _ => 0, fun _ => [], by simp, h, by simp, by simp, by simp, by simp, by simp, by simp, fun _ _ _ => rfl⟩

/-- A member comes. -/
theorem PlanWith.member {w w' : World} {S : List Nat} {b nb : Nat} {f : ByteArray → ByteArray → List Int} {ks : List ByteArray} {I : ByteArray → Nat} {M : ByteArray → List (ByteArray × Value)} (h : PlanWith w S b f ks I M) (k : ByteArray) (hk : k ∉ ks)
    (h1 : MapIs Value.string w' b (ks.map (fun k => (k, Value.map (some (I k)))) ++ [(k, .map (some nb))])) (h2 : MapIs Value.string w' nb []) (h3 : Kept [b] w w') (h4 : w.heap.size ≤ nb) :
    PlanWith w' (nb :: S) b f (ks ++ [k]) (upd I k nb) (upd M k []) := by
  have hne : ∀ x ∈ ks, x ≠ k := fun x hx e => hk (e ▸ hx)
  have hIlt : ∀ x ∈ ks, I x < w.heap.size := fun x hx => (h.inner x hx).lt
  have hold : ∀ x ∈ ks ++ [k], (x ∈ ks ∧ x ≠ k) ∨ x = k := by
    intro x hx
    rcases List.mem_append.1 hx with hx | hx
    · exact .inl ⟨hx, hne x hx⟩
    · exact .inr (by simpa using hx)
  refine ⟨.tail _ h.bS, ?_, ?_, ?_, ?_, ?_, ?_, ?_, ?_⟩
  · rw [List.map_append, List.map_cons, List.map_nil, upd_same]
    rw [show List.map (fun k' => (k', Value.map (some (upd I k nb k')))) ks = ks.map (fun k => (k, Value.map (some (I k)))) from List.map_congr_left (fun x hx => by rw [upd_other _ _ (hne x hx)])]
    exact h1
  · intro x hx
    rcases hold x hx with ⟨hx, hxk⟩ | rfl
    · rw [upd_other _ _ hxk, upd_other _ _ hxk]
      exact (h.inner x hx).kept h3 (by simpa using (h.innerS x hx).2)
    · rw [upd_same, upd_same]
      exact h2
  · intro x hx
    rcases hold x hx with ⟨hx, hxk⟩ | rfl
    · rw [upd_other _ _ hxk]
      exact ⟨.tail _ (h.innerS x hx).1, (h.innerS x hx).2⟩
    · rw [upd_same]
      exact ⟨.head _, by have := h.outer.lt; omega⟩
  · intro x hx y hy
    rcases hold x hx with ⟨hx1, hxk⟩ | rfl <;> rcases hold y hy with ⟨hy1, hyk⟩ | rfl
    · rw [upd_other _ _ hxk, upd_other _ _ hyk]
      exact h.apart x hx1 y hy1
    · rw [upd_other _ _ hxk, upd_same]
      intro e
      have := hIlt x hx1
      omega
    · rw [upd_other _ _ hyk, upd_same]
      intro e
      have := hIlt y hy1
      omega
    · exact fun _ => rfl
  · intro x hx t u hu
    rcases hold x hx with ⟨hx, hxk⟩ | rfl
    · rw [upd_other _ _ hxk] at hu
      exact h3.own (h.rows x hx t u hu) (fun g hg => by simpa using own_map_ne (h.rows x hx t u hu) h.outer g hg)
    · rw [upd_same] at hu
      cases hu
  · intro x hx t u hu g hg
    rcases hold x hx with ⟨hx, hxk⟩ | rfl
    · rw [upd_other _ _ hxk] at hu
      exact .tail _ (h.rowsS x hx t u hu g hg)
    · rw [upd_same] at hu
      cases hu
  · intro x hx y hy t u t' u' g hu hu'
    rcases hold x hx with ⟨hx1, hxk⟩ | rfl <;> rcases hold y hy with ⟨hy1, hyk⟩ | rfl
    · rw [upd_other _ _ hxk] at hu
      rw [upd_other _ _ hyk] at hu'
      exact h.rapart x hx1 y hy1 t u t' u' g hu hu'
    · rw [upd_same] at hu'
      cases hu'
    · rw [upd_same] at hu
      cases hu
    · rw [upd_same] at hu
      cases hu
  · intro x t hx
    by_cases hxk : x = k
    · subst hxk
      exact h.nil x t (fun hh => absurd hh hk)
    · refine h.nil x t (fun hh => ?_)
      have := hx (List.mem_append_left _ hh)
      rwa [upd_other _ _ hxk] at this

/-- The row of a member and a topic; nil where there is none. -/
theorem PlanWith.row {w : World} {S : List Nat} {b : Nat} {f : ByteArray → ByteArray → List Int} {ks : List ByteArray} {I : ByteArray → Nat} {M : ByteArray → List (ByteArray × Value)} (h : PlanWith w S b f ks I M) {k : ByteArray} (hk : k ∈ ks) (t : ByteArray) :
    w.ownsRow 0 21 1 ((mget (M k) t).getD (.slice none 0 0)) (f k t).length (ints (f k t)) ∧ ∀ g, ((mget (M k) t).getD (.slice none 0 0)).ownBlock = some g → g ∈ S := by
  cases hm : mget (M k) t with
  | none =>
    rw [h.nil k t (fun _ => mget_none_iff.1 hm)]
    exact ⟨World.ownsRow_nil _ _ _ _, fun g hg => by cases hg⟩
  | some u => exact ⟨h.rows k hk t u (mem_of_mget hm), h.rowsS k hk t u (mem_of_mget hm)⟩

theorem mem_mset {m : List (ByteArray × Value)} {k t : ByteArray} {v u : Value} (hn : (m.map Prod.fst).Nodup) (h : (t, u) ∈ mset m k v) : (t = k ∧ u = v) ∨ (t ≠ k ∧ (t, u) ∈ m) := by
  have hn' : ((mset m k v).map Prod.fst).Nodup := by
    rw [keys_mset]
    split
    · exact hn
    · rename_i hk
      rw [List.nodup_append]
      exact ⟨hn, List.nodup_cons.2 ⟨by simp, List.nodup_nil⟩, fun a ha b hb => by
        have : b = k := by simpa using hb
        subst this
        exact fun e => hk (e ▸ ha)⟩
  have hg := mget_of_mem hn' h
  by_cases htk : t = k
  · subst htk
    rw [mget_mset_same] at hg
    exact .inl ⟨rfl, (Option.some.inj hg).symm⟩
  · rw [mget_mset_other _ htk] at hg
    exact .inr ⟨htk, mem_of_mget hg⟩

/-- A member has more of a topic. -/
theorem PlanWith.add {w w1 w2 : World} {S : List Nat} {b : Nat} {f : ByteArray → ByteArray → List Int} {ks : List ByteArray} {I : ByteArray → Nat} {M : ByteArray → List (ByteArray × Value)} (h : PlanWith w S b f ks I M) {k : ByteArray} (hk : k ∈ ks) (t : ByteArray) (v : Value) (zs : List Int)
    (hrow : w1.ownsRow 0 21 1 v zs.length (ints zs)) (hk1 : Kept ((mget (M k) t).getD (.slice none 0 0)).ownBlock.toList w w1) (hv : v.ownBlock = ((mget (M k) t).getD (.slice none 0 0)).ownBlock ∨ ∃ g, v.ownBlock = some g ∧ w.heap.size ≤ g)
    (hm : MapIs Value.string w2 (I k) (mset (M k) t v)) (hk2 : Kept [I k] w1 w2) :
    PlanWith w2 (v.ownBlock.toList ++ S) b (upd2 f k t zs) ks I (upd M k (mset (M k) t v)) := by
  have hr := h.row hk t
  obtain ⟨u0, hu0⟩ : ∃ u0, (mget (M k) t).getD (.slice none 0 0) = u0 := ⟨_, rfl⟩
  rw [hu0] at hr hk1 hv
  have hb0 : b ∉ u0.ownBlock.toList := fun hm => own_map_ne hr.1 h.outer b (by simpa using hm) rfl
  have hi0 : ∀ x ∈ ks, I x ∉ u0.ownBlock.toList := fun x hx hm => own_map_ne hr.1 (h.inner x hx) (I x) (by simpa using hm) rfl
  have hI1 : ∀ x ∈ ks, MapIs Value.string w1 (I x) (M x) := fun x hx => (h.inner x hx).kept hk1 (hi0 x hx)
  have hnd := (h.inner k hk).nodup
  -- an older row outlives both
  have hother : ∀ x ∈ ks, ∀ s u, (s, u) ∈ M x → ¬ (x = k ∧ s = t) → w2.ownsRow 0 21 1 u (f x s).length (ints (f x s)) := by
    intro x hx s u hu hne
    have h0 := h.rows x hx s u hu
    have h1 : w1.ownsRow 0 21 1 u (f x s).length (ints (f x s)) := hk1.own h0 (fun g hg hm => by
      have hm' : u0.ownBlock = some g := by simpa using hm
      cases hmg : mget (M k) t with
      | none =>
        rw [hmg] at hu0
        subst hu0
        cases hm'
      | some u1 =>
        rw [hmg] at hu0
        have hu0 : u1 = u0 := hu0
        subst hu0
        exact hne (h.rapart x hx k hk s u t u1 g hu (mem_of_mget hmg) hg hm'))
    exact hk2.own h1 (fun g hg => by simpa using own_map_ne h1 (hI1 k hk) g hg)
  have hnew : w2.ownsRow 0 21 1 v zs.length (ints zs) := hk2.own hrow (fun g hg => by simpa using own_map_ne hrow (hI1 k hk) g hg)
  -- the new row lies apart
  have hvap : ∀ x ∈ ks, ∀ s u g, (s, u) ∈ M x → v.ownBlock = some g → u.ownBlock = some g → x = k ∧ s = t := by
    intro x hx s u g hu hv' hg
    rcases hv with hv | ⟨g', hv, hge⟩
    · rw [hv'] at hv
      cases hmg : mget (M k) t with
      | none =>
        rw [hmg] at hu0
        subst hu0
        cases hv
      | some u1 =>
        rw [hmg] at hu0
        have hu0 : u1 = u0 := hu0
        subst hu0
        exact h.rapart x hx k hk s u t u1 g hu (mem_of_mget hmg) hg hv.symm
    · have := own_lt (h.rows x hx s u hu) g hg
      rw [hv'] at hv
      have : g = g' := Option.some.inj hv
      omega
  have hmem : ∀ x ∈ ks, ∀ s u, (s, u) ∈ upd M k (mset (M k) t v) x → (x = k ∧ s = t ∧ u = v) ∨ (¬ (x = k ∧ s = t) ∧ (s, u) ∈ M x) := by
    intro x hx s u hu
    by_cases hxk : x = k
    · subst hxk
      rw [upd_same] at hu
      rcases mem_mset hnd hu with ⟨rfl, rfl⟩ | ⟨h1, h2⟩
      · exact .inl ⟨rfl, rfl, rfl⟩
      · exact .inr ⟨fun hh => h1 hh.2, h2⟩
    · rw [upd_other _ _ hxk] at hu
      exact .inr ⟨fun hh => hxk hh.1, hu⟩
  refine ⟨List.mem_append_right _ h.bS, (h.outer.kept hk1 hb0).kept hk2 (by simpa using Ne.symm (h.innerS k hk).2), ?_, ?_, h.apart, ?_, ?_, ?_, ?_⟩
  · intro x hx
    by_cases hxk : x = k
    · subst hxk
      rw [upd_same]
      exact hm
    · rw [upd_other _ _ hxk]
      exact (hI1 x hx).kept hk2 (by simpa using fun e => hxk (h.apart x hx k hk e))
  · intro x hx
    exact ⟨List.mem_append_right _ (h.innerS x hx).1, (h.innerS x hx).2⟩
  · intro x hx s u hu
    rcases hmem x hx s u hu with ⟨rfl, rfl, rfl⟩ | ⟨hne, hu⟩
    · simpa [upd2] using hnew
    · have := hother x hx s u hu hne
      simpa [upd2, hne] using this
  · intro x hx s u hu g hg
    rcases hmem x hx s u hu with ⟨rfl, rfl, rfl⟩ | ⟨hne, hu⟩
    · exact List.mem_append_left _ (by simpa using hg)
    · exact List.mem_append_right _ (h.rowsS x hx s u hu g hg)
  · intro x hx y hy s u s' u' g hu hu' hg hg'
    rcases hmem x hx s u hu with ⟨e1, e2, e3⟩ | ⟨hne, hu1⟩ <;> rcases hmem y hy s' u' hu' with ⟨e4, e5, e6⟩ | ⟨hne', hu2⟩
    · exact ⟨e1.trans e4.symm, e2.trans e5.symm⟩
    · have := hvap y hy s' u' g hu2 (e3 ▸ hg) hg'
      exact ⟨e1.trans this.1.symm, e2.trans this.2.symm⟩
    · have := hvap x hx s u g hu1 (e6 ▸ hg') hg
      exact ⟨this.1.trans e4.symm, this.2.trans e5.symm⟩
    · exact h.rapart x hx y hy s u s' u' g hu1 hu2 hg hg'
  · intro x s hx
    by_cases hxs : x = k ∧ s = t
    · obtain ⟨rfl, rfl⟩ := hxs
      refine absurd ?_ (hx hk)
      rw [upd_same, keys_mset]
      split <;> simp_all
    · rw [show upd2 f k t zs x s = f x s by simp [upd2, hxs]]
      refine h.nil x s (fun hh hin => hx hh ?_)
      by_cases hxk : x = k
      · subst hxk
        rw [upd_same, keys_mset]
        split
        · exact hin
        · exact List.mem_append_left _ hin
      · rwa [upd_other _ _ hxk]


end Go.Proofs.YtghgffhcdnmpnaaGreat
/-
  (BalanceStrategyPlan).Add upon a plan in memory. Conditions: the numbers lie apart from the plan; no list is longer than a thousand million.
-/
namespace Go.Proofs.YtghgffhcdnmpnaaGreat
open Go.RowKit
def adF (b : Nat) (k t : ByteArray) (ib : Nat) (u0 ys : Value) (m : Nat) (zs : List Int) (z : Nat) (ix : Nat) (v : Value) (W : World) : Prop :=
  match ix with
  | 0 => v = .map (some b)
  | 1 => v = .string k
  | 2 => v = .map (some ib)
  | 3 => v = .string t
  | 4 => v = .map (some b)
  | 5 => v = .string k
  | 6 => v = .map (some ib)
  | 7 => v = .string t
  | 8 => v = u0
  | 9 => v = ys
  | 10 => W.ownsRow 0 21 1 v m (ints zs) ∧ (v.ownBlock = u0.ownBlock ∨ ∃ g, v.ownBlock = some g ∧ z ≤ g)
  | _ => True
def adE (u0 : Value) (i : Nat) (a b : World) : Prop := Kept (match i with | 10 => u0.ownBlock.toList | _ => []) a b
theorem adE_R {u0 : Value} {i : Nat} {a b c : World} (h : Kept u0.ownBlock.toList a b) (k : adE u0 i b c) : Kept u0.ownBlock.toList a c := by
  unfold adE at k
  split at k
  · exact h.trans k (fun x hx => .inl hx)
  · exact h.trans0 k
theorem adF_stable {b k t ib u0 ys m zs z} : ∀ i j v w w', i ≠ j → adF b k t ib u0 ys m zs z j v w → adE u0 i w w' → adF b k t ib u0 ys m zs z j v w' := by
  intro i j v w w' hij h hk
  unfold adF at h ⊢
  split at h <;> (first | (exact h) | skip)
  unfold adE at hk
  split at hk
  · exact absurd rfl hij
  · exact ⟨own_kept0 h.1 hk, h.2⟩
def adPre (u0 : Value) (n : Nat) (xs : List Int) (i : Nat) (w : World) : Prop := i = 10 → w.ownsRow 0 21 1 u0 n (ints xs)
theorem adPre_stable {u0 : Value} {n : Nat} {xs : List Int} : ∀ i j w w', i ≠ j → adPre u0 n xs j w → adE u0 i w w' → adPre u0 n xs j w' := by
  intro i j w w' hij h hk hj
  subst hj
  unfold adE at hk
  split at hk
  · exact absurd rfl hij
  · exact own_kept0 (h rfl) hk

set_option maxRecDepth 100000 in
set_option maxHeartbeats 1600000 in
/-- (BalanceStrategyPlan).Add. -/
theorem add_any (S : List Nat) (b : Nat) (f : ByteArray → ByteArray → List Int) (k t : ByteArray) (v : Value) (X : Nat → Prop) (xs : List Int) (w : World) (hP : PlanIs w S b f) (hv : SlAt w X 1 v (ints xs)) (hX : ∀ x, X x → x ∉ S) (hsz : (f k t).length + xs.length ≤ 1000000000) :
    Calls Tryz.prog 75 #[.map (some b), .string k, .string t, v] w fun e w' => e = .returned (.tuple #[]) ∧ ∃ S', PlanIs w' S' b (upd2 f k t (f k t ++ xs)) ∧ Kept S w w' ∧ ∀ x ∈ S', x ∈ S ∨ w.heap.size ≤ x := by
  obtain ⟨A, n, c, rfl, hys, hys2, _⟩ := hv
  have hxn : xs.length = n := by have := hys.1; simpa [ints] using this
  by_cases hn0 : n = 0
  · subst hn0
    obtain rfl : xs = [] := List.eq_nil_of_length_eq_zero hxn
    have hP' := Lib.hid hP
    clear hP hys hys2 hX hsz
    go_enter Tryz.func75, Tryz.ntmps75
    go_wp2
    refine bodyPost_ret (results_none rfl _ _ _) rfl ?_
    refine ⟨rfl, S, ?_, Kept.refl _ _, fun x hx => .inl hx⟩
    have : upd2 f k t (f k t ++ []) = f := by
      funext x y
      by_cases hxy : x = k ∧ y = t
      · simp [upd2, hxy.1, hxy.2]
      · simp [upd2, hxy]
    rw [this]
    exact hP'.out
  · obtain ⟨ks, I, M, hP⟩ := hP
    have hne : ¬ ((n : Int) = 0) := by omega
    have hAS0 : ∀ a, A = some a → a.block ∉ S := fun a ha => hX _ (hys2 a ha (by omega))
    have HOut := Lib.hid hP.outer
    have HP := Lib.hid hP
    have HY := Lib.hid hys
    have HA := Lib.hid hAS0
    have hmm : ∀ (w : World), (Instr.makeMap 89 (some (.int .i64 1))).run Tryz.prog w = .ok (.map (some w.heap.size)) (w.alloc (.map #[] 0)) := fun w => by
      simp [Instr.makeMap, asInt, asIntOf]
    by_cases hk : k ∈ ks
    · have hmg : mget (ks.map fun k => (k, Value.map (some (I k)))) k = some (.map (some (I k))) := mget_outer I hk
      have HMG := Lib.hid hmg
      clear hP hys hys2 hX hmg hAS0
      go_enter Tryz.func75, Tryz.ntmps75
      go_wp2_with (refine wl_lookup_ok rfl _ _ 83 rfl 89 Tryz.underlying83 str9 (.map none) (Tryz.zeroValue89 _) b _ rfl HOut.out k rfl ?_; rw [HMG.out])
      have HS1 : Hid (∀ x ∈ S, x ∈ S ∨ w.heap.size ≤ x) := fun x hx => .inl hx
      have HK1 : Hid (Kept S w w) := Kept.refl _ _
      have hP1 := HP.out
      have hk1 := hk
      clear HP HOut HMG
      obtain ⟨u0, hu0⟩ : ∃ u0, (mget (M k) t).getD (.slice none 0 0) = u0 := ⟨_, rfl⟩
      have hrow := hP1.row hk1 t
      rw [hu0] at hrow
      have hOut := hP1.outer
      have hInn := hP1.inner k hk1
      have hys : SlIs w 1 A n (ints xs) := HY.out.kept HK1.out (fun a ha => HA.out a ha)
      have hbS : b ∉ u0.ownBlock.toList := fun hm => own_map_ne hrow.1 hOut b (by simpa using hm) rfl
      have hiS : I k ∉ u0.ownBlock.toList := fun hm => own_map_ne hrow.1 hInn (I k) (by simpa using hm) rfl
      have hAS : ∀ a, A = some a → a.block ∉ u0.ownBlock.toList := fun a ha hm => by
        rcases HS1.out _ (hrow.2 _ (by simpa using hm)) with h | h
        · exact HA.out a ha h
        · obtain ⟨bb, off, hb, hc⟩ := HY.out.2.2 (by omega)
          have hlen : 0 < (ints xs).length := by have := HY.out.1; omega
          have hlt : bb < w.heap.size := World.block_lt_of_cell? w _ (hc 0 _ (List.getElem?_eq_getElem hlen))
          rw [hb] at ha
          have := Option.some.inj ha
          subst this
          simp only at h
          omega
      have hgk : (mget (ks.map fun k => (k, Value.map (some (I k)))) k).getD (.map none) = .map (some (I k)) := by rw [mget_outer I hk1]; rfl
      refine wp_region_effs' 11 (Kept u0.ownBlock.toList) (adE u0) (adPre u0 (f k t).length (f k t)) (adF b k t (I k) u0 (.slice A n c) (f k t ++ xs).length (f k t ++ xs) w.heap.size) mixed (by kernel_rfl) ((Kept.refl _ _).drew) (fun i _ _ _ h k => adE_R h k) (fun i _ _ => hrow.1) adF_stable adPre_stable ?_ ?_
      · refine ⟨?_, ?_, ?_, ?_, ?_, ?_, ?_, ?_, ?_, ?_, ?_, trivial⟩
        all_goals go_light
        all_goals intro a W hR hpre hs hd
        all_goals have p0 : a.tmps[0]? = some (.map (some b)) := hs.2.2 0 (by decide)
        all_goals have p1 : a.tmps[1]? = some (.string k) := hs.2.2 1 (by decide)
        all_goals have p2 : a.tmps[2]? = some (.string t) := hs.2.2 2 (by decide)
        all_goals have p3 : a.tmps[3]? = some (.slice A n c) := hs.2.2 3 (by decide)
        all_goals have hRr : Kept [] W W := Kept.refl [] W
        · refine ow_value (w' := W) (v := .map (some b)) ?_ (.mk hRr rfl rfl)
          simp [go_sem, p0]
        · refine ow_value (w' := W) (v := .string k) ?_ (.mk hRr rfl rfl)
          simp [go_sem, p1]
        · have q0 : _ = _ := hd.1 rfl
          have q1 : _ = _ := hd.2.1 rfl
          refine ow_value (w' := W) (v := .map (some (I k))) ?_ (.mk hRr rfl rfl)
          have hl := (MapIs.run_lookup (P := Tryz.prog) str9 Tryz.underlying83 (hOut.kept hR hbS) (z := .map none) (Tryz.zeroValue89 W) k)
          rw [hgk] at hl
          simp [go_sem, q0, q1, hl]
        · refine ow_value (w' := W) (v := .string t) ?_ (.mk hRr rfl rfl)
          simp [go_sem, p2]
        · refine ow_value (w' := W) (v := .map (some b)) ?_ (.mk hRr rfl rfl)
          simp [go_sem, p0]
        · refine ow_value (w' := W) (v := .string k) ?_ (.mk hRr rfl rfl)
          simp [go_sem, p1]
        · have q4 : _ = _ := hd.1 rfl
          have q5 : _ = _ := hd.2.1 rfl
          refine ow_value (w' := W) (v := .map (some (I k))) ?_ (.mk hRr rfl rfl)
          have hl := (MapIs.run_lookup (P := Tryz.prog) str9 Tryz.underlying83 (hOut.kept hR hbS) (z := .map none) (Tryz.zeroValue89 W) k)
          rw [hgk] at hl
          simp [go_sem, q4, q5, hl]
        · refine ow_value (w' := W) (v := .string t) ?_ (.mk hRr rfl rfl)
          simp [go_sem, p2]
        · have q6 : _ = _ := hd.1 rfl
          have q7 : _ = _ := hd.2.1 rfl
          refine ow_value (w' := W) (v := u0) ?_ (.mk hRr rfl rfl)
          have hl := (MapIs.run_lookup (P := Tryz.prog) str9 Tryz.underlying89 (hInn.kept hR hiS) (z := .slice none 0 0) (Tryz.zeroValue49 W) t)
          rw [hu0] at hl
          simp [go_sem, q6, q7, hl]
        · refine ow_value (w' := W) (v := .slice A n c) ?_ (.mk hRr rfl rfl)
          simp [go_sem, p3]
        · have q8 : _ = _ := hd.1 rfl
          have q9 : _ = _ := hd.2.1 rfl
          have hown := hpre rfl
          refine ow_append _ _ 49 rfl 0 21 Tryz.underlying49 info21 rfl (by decide) u0 _ _ (by simp [go_sem, q8]) hown A n c _ (by simp [go_sem, q9]) (hys.kept hR hAS) (ints_one _) (by omega) (by omega) (Nat.zero_le _) ?_
          intro v' w' h1 h2 h3
          refine ⟨v', rfl, h2, ⟨?_, ?_⟩, fun h => by cases h⟩
          · rw [show ints (f k t ++ xs) = ints (f k t) ++ ints xs from List.map_append]
            rw [show (f k t ++ xs).length = (f k t).length + n by rw [List.length_append, hxn]]
            exact h1
          · rcases h3 with h3 | h3
            · exact .inl h3
            · exact .inr ⟨_, h3, hR.size⟩
      · intro fv W hR hf
        obtain ⟨f0, f1, f2, f3, f4, f5, f6, f7, f8, f9, f10, -⟩ := hf
        change fv 24 = _ at f0
        change fv 25 = _ at f1
        change fv 26 = _ at f2
        change fv 27 = _ at f3
        change fv 28 = _ at f4
        change fv 29 = _ at f5
        change fv 30 = _ at f6
        change fv 31 = _ at f7
        change fv 32 = _ at f8
        change fv 33 = _ at f9
        change W.ownsRow 0 21 1 (fv 34) (f k t ++ xs).length (ints (f k t ++ xs)) ∧ ((fv 34).ownBlock = u0.ownBlock ∨ ∃ g, (fv 34).ownBlock = some g ∧ w.heap.size ≤ g) at f10
        obtain ⟨x10, g10⟩ : ∃ x, fv 34 = x := ⟨_, rfl⟩
        rw [g10] at f10
        simp only [headDsts, List.take_succ_cons, List.take_zero, List.filterMap_cons, List.filterMap_nil, setAll, f0, f1, f2, f3, f4, f5, f6, f7, f8, f9, g10, List.setIfInBounds_toArray, List.set_cons_succ, List.set_cons_zero, List.drop_succ_cons, List.drop_zero]
        clear f0 f1 f2 f3 f4 f5 f6 f7 f8 f9 g10 fv
        have hszW := hR.size
        have hsz1 := HK1.out.size
        refine wl_update rfl _ _ _ 89 rfl 49 Tryz.underlying89 str9 (I k) (M k) rfl (hInn.kept hR hiS) t rfl x10 rfl ?_
        intro w3 hM3 hK3 hs3
        have hP3 := Lib.hid (hP1.add hk1 t x10 (f k t ++ xs) f10.1 (hu0.symm ▸ hR) (hu0.symm ▸ f10.2) hM3 hK3)
        have hK4 : Hid (Kept S w w3) := by
          refine (HK1.out.trans (hR.mono (T := S) (fun x hx => hrow.2 x (by simpa using hx))) (fun x hx => HS1.out x hx)).trans hK3 (fun x hx => ?_)
          have hx' : x = I k := by simpa using hx
          exact hx' ▸ HS1.out _ (hP1.innerS k hk1).1
        have hS4 : Hid (∀ x ∈ x10.ownBlock.toList ++ S, x ∈ S ∨ w.heap.size ≤ x) := by
          intro x hx
          rcases List.mem_append.1 hx with hx | hx
          · rcases f10.2 with h | ⟨g, h, hg⟩
            · exact HS1.out x (hrow.2 x (by rw [← h]; simpa using hx))
            · rw [h] at hx
              have : x = g := by simpa using hx
              exact .inr (by omega)
          · exact HS1.out x hx
        clear f10 hrow hOut hInn hys hbS hiS hAS hgk hR hM3 hK3 hs3 hszW hsz1 hP1 HS1 HK1 HY HA
        go_wp2
        refine bodyPost_end (results_none rfl _ _ _) rfl ?_
        refine ⟨rfl, _, ⟨_, _, _, hP3.out⟩, hK4.out, hS4.out⟩

    · have hmg : mget (ks.map fun k => (k, Value.map (some (I k)))) k = none := mget_outer_none I hk
      have HMG := Lib.hid hmg
      clear hP hys hys2 hX hmg hAS0
      go_enter Tryz.func75, Tryz.ntmps75
      go_wp2_with (first | (refine wl_lookup_ok rfl _ _ 83 rfl 89 Tryz.underlying83 str9 (.map none) (Tryz.zeroValue89 _) b _ rfl HOut.out k rfl ?_; rw [HMG.out]) | (refine wl_update rfl _ _ _ 83 rfl 89 Tryz.underlying83 str9 b _ rfl (HOut.out.alloc _) k rfl _ rfl ?_; intro w2 hM2 hK2 hs2; have HM2 := Lib.hid hM2; have HK2 := Lib.hid hK2; clear hM2 hK2))
      dsimp only [Act.put]
      have hP1 : PlanWith w2 (w.heap.size :: S) b f (ks ++ [k]) (upd I k w.heap.size) (upd M k []) := by
        have h1 := HM2.out
        rw [mset_new _ HMG.out] at h1
        have hb := HOut.out.lt
        exact HP.out.member k hk h1 ((MapIs.new _ _).kept HK2.out (by simp; omega)) (((Kept.refl _ _).alloc _).trans HK2.out (fun x hx => .inl hx)) (Nat.le_refl _)
      have HS1 : Hid (∀ x ∈ w.heap.size :: S, x ∈ S ∨ w.heap.size ≤ x) := by
        intro x hx
        rcases List.mem_cons.1 hx with rfl | hx
        · exact .inr (Nat.le_refl _)
        · exact .inl hx
      have HK1 : Hid (Kept S w w2) := ((Kept.refl _ _).alloc _).trans HK2.out (fun x hx => by
        have hx' : x = b := by simpa using hx
        exact .inl (hx' ▸ HP.out.bS))
      have hk1 : k ∈ ks ++ [k] := by simp
      clear HM2 HMG HP HOut HK2 hs2
      obtain ⟨I1, hI1⟩ : ∃ I1, upd I k w.heap.size = I1 := ⟨_, rfl⟩
      obtain ⟨M1, hM1⟩ : ∃ M1, upd M k [] = M1 := ⟨_, rfl⟩
      obtain ⟨ks1, hks1⟩ : ∃ ks1, ks ++ [k] = ks1 := ⟨_, rfl⟩
      obtain ⟨S1, hS1⟩ : ∃ S1, w.heap.size :: S = S1 := ⟨_, rfl⟩
      rw [hI1, hM1, hks1, hS1] at hP1
      rw [hS1] at HS1
      rw [hks1] at hk1
      clear hI1 hM1 hks1 hS1
      obtain ⟨u0, hu0⟩ : ∃ u0, (mget (M1 k) t).getD (.slice none 0 0) = u0 := ⟨_, rfl⟩
      have hrow := hP1.row hk1 t
      rw [hu0] at hrow
      have hOut := hP1.outer
      have hInn := hP1.inner k hk1
      have hys : SlIs w2 1 A n (ints xs) := HY.out.kept HK1.out (fun a ha => HA.out a ha)
      have hbS : b ∉ u0.ownBlock.toList := fun hm => own_map_ne hrow.1 hOut b (by simpa using hm) rfl
      have hiS : I1 k ∉ u0.ownBlock.toList := fun hm => own_map_ne hrow.1 hInn (I1 k) (by simpa using hm) rfl
      have hAS : ∀ a, A = some a → a.block ∉ u0.ownBlock.toList := fun a ha hm => by
        rcases HS1.out _ (hrow.2 _ (by simpa using hm)) with h | h
        · exact HA.out a ha h
        · obtain ⟨bb, off, hb, hc⟩ := HY.out.2.2 (by omega)
          have hlen : 0 < (ints xs).length := by have := HY.out.1; omega
          have hlt : bb < w.heap.size := World.block_lt_of_cell? w _ (hc 0 _ (List.getElem?_eq_getElem hlen))
          rw [hb] at ha
          have := Option.some.inj ha
          subst this
          simp only at h
          omega
      have hgk : (mget (ks1.map fun k => (k, Value.map (some (I1 k)))) k).getD (.map none) = .map (some (I1 k)) := by rw [mget_outer I1 hk1]; rfl
      refine wp_region_effs' 11 (Kept u0.ownBlock.toList) (adE u0) (adPre u0 (f k t).length (f k t)) (adF b k t (I1 k) u0 (.slice A n c) (f k t ++ xs).length (f k t ++ xs) w2.heap.size) mixed (by kernel_rfl) ((Kept.refl _ _).drew) (fun i _ _ _ h k => adE_R h k) (fun i _ _ => hrow.1) adF_stable adPre_stable ?_ ?_
      · refine ⟨?_, ?_, ?_, ?_, ?_, ?_, ?_, ?_, ?_, ?_, ?_, trivial⟩
        all_goals go_light
        all_goals intro a W hR hpre hs hd
        all_goals have p0 : a.tmps[0]? = some (.map (some b)) := hs.2.2 0 (by decide)
        all_goals have p1 : a.tmps[1]? = some (.string k) := hs.2.2 1 (by decide)
        all_goals have p2 : a.tmps[2]? = some (.string t) := hs.2.2 2 (by decide)
        all_goals have p3 : a.tmps[3]? = some (.slice A n c) := hs.2.2 3 (by decide)
        all_goals have hRr : Kept [] W W := Kept.refl [] W
        · refine ow_value (w' := W) (v := .map (some b)) ?_ (.mk hRr rfl rfl)
          simp [go_sem, p0]
        · refine ow_value (w' := W) (v := .string k) ?_ (.mk hRr rfl rfl)
          simp [go_sem, p1]
        · have q0 : _ = _ := hd.1 rfl
          have q1 : _ = _ := hd.2.1 rfl
          refine ow_value (w' := W) (v := .map (some (I1 k))) ?_ (.mk hRr rfl rfl)
          have hl := (MapIs.run_lookup (P := Tryz.prog) str9 Tryz.underlying83 (hOut.kept hR hbS) (z := .map none) (Tryz.zeroValue89 W) k)
          rw [hgk] at hl
          simp [go_sem, q0, q1, hl]
        · refine ow_value (w' := W) (v := .string t) ?_ (.mk hRr rfl rfl)
          simp [go_sem, p2]
        · refine ow_value (w' := W) (v := .map (some b)) ?_ (.mk hRr rfl rfl)
          simp [go_sem, p0]
        · refine ow_value (w' := W) (v := .string k) ?_ (.mk hRr rfl rfl)
          simp [go_sem, p1]
        · have q4 : _ = _ := hd.1 rfl
          have q5 : _ = _ := hd.2.1 rfl
          refine ow_value (w' := W) (v := .map (some (I1 k))) ?_ (.mk hRr rfl rfl)
          have hl := (MapIs.run_lookup (P := Tryz.prog) str9 Tryz.underlying83 (hOut.kept hR hbS) (z := .map none) (Tryz.zeroValue89 W) k)
          rw [hgk] at hl
          simp [go_sem, q4, q5, hl]
        · refine ow_value (w' := W) (v := .string t) ?_ (.mk hRr rfl rfl)
          simp [go_sem, p2]
        · have q6 : _ = _ := hd.1 rfl
          have q7 : _ = _ := hd.2.1 rfl
          refine ow_value (w' := W) (v := u0) ?_ (.mk hRr rfl rfl)
          have hl := (MapIs.run_lookup (P := Tryz.prog) str9 Tryz.underlying89 (hInn.kept hR hiS) (z := .slice none 0 0) (Tryz.zeroValue49 W) t)
          rw [hu0] at hl
          simp [go_sem, q6, q7, hl]
        · refine ow_value (w' := W) (v := .slice A n c) ?_ (.mk hRr rfl rfl)
          simp [go_sem, p3]
        · have q8 : _ = _ := hd.1 rfl
          have q9 : _ = _ := hd.2.1 rfl
          have hown := hpre rfl
          refine ow_append _ _ 49 rfl 0 21 Tryz.underlying49 info21 rfl (by decide) u0 _ _ (by simp [go_sem, q8]) hown A n c _ (by simp [go_sem, q9]) (hys.kept hR hAS) (ints_one _) (by omega) (by omega) (Nat.zero_le _) ?_
          intro v' w' h1 h2 h3
          refine ⟨v', rfl, h2, ⟨?_, ?_⟩, fun h => by cases h⟩
          · rw [show ints (f k t ++ xs) = ints (f k t) ++ ints xs from List.map_append]
            rw [show (f k t ++ xs).length = (f k t).length + n by rw [List.length_append, hxn]]
            exact h1
          · rcases h3 with h3 | h3
            · exact .inl h3
            · exact .inr ⟨_, h3, hR.size⟩
      · intro fv W hR hf
        obtain ⟨f0, f1, f2, f3, f4, f5, f6, f7, f8, f9, f10, -⟩ := hf
        change fv 24 = _ at f0
        change fv 25 = _ at f1
        change fv 26 = _ at f2
        change fv 27 = _ at f3
        change fv 28 = _ at f4
        change fv 29 = _ at f5
        change fv 30 = _ at f6
        change fv 31 = _ at f7
        change fv 32 = _ at f8
        change fv 33 = _ at f9
        change W.ownsRow 0 21 1 (fv 34) (f k t ++ xs).length (ints (f k t ++ xs)) ∧ ((fv 34).ownBlock = u0.ownBlock ∨ ∃ g, (fv 34).ownBlock = some g ∧ w2.heap.size ≤ g) at f10
        obtain ⟨x10, g10⟩ : ∃ x, fv 34 = x := ⟨_, rfl⟩
        rw [g10] at f10
        simp only [headDsts, List.take_succ_cons, List.take_zero, List.filterMap_cons, List.filterMap_nil, setAll, f0, f1, f2, f3, f4, f5, f6, f7, f8, f9, g10, List.setIfInBounds_toArray, List.set_cons_succ, List.set_cons_zero, List.drop_succ_cons, List.drop_zero]
        clear f0 f1 f2 f3 f4 f5 f6 f7 f8 f9 g10 fv
        have hszW := hR.size
        have hsz1 := HK1.out.size
        refine wl_update rfl _ _ _ 89 rfl 49 Tryz.underlying89 str9 (I1 k) (M1 k) rfl (hInn.kept hR hiS) t rfl x10 rfl ?_
        intro w3 hM3 hK3 hs3
        have hP3 := Lib.hid (hP1.add hk1 t x10 (f k t ++ xs) f10.1 (hu0.symm ▸ hR) (hu0.symm ▸ f10.2) hM3 hK3)
        have hK4 : Hid (Kept S w w3) := by
          refine (HK1.out.trans (hR.mono (T := S1) (fun x hx => hrow.2 x (by simpa using hx))) (fun x hx => HS1.out x hx)).trans hK3 (fun x hx => ?_)
          have hx' : x = I1 k := by simpa using hx
          exact hx' ▸ HS1.out _ (hP1.innerS k hk1).1
        have hS4 : Hid (∀ x ∈ x10.ownBlock.toList ++ S1, x ∈ S ∨ w.heap.size ≤ x) := by
          intro x hx
          rcases List.mem_append.1 hx with hx | hx
          · rcases f10.2 with h | ⟨g, h, hg⟩
            · exact HS1.out x (hrow.2 x (by rw [← h]; simpa using hx))
            · rw [h] at hx
              have : x = g := by simpa using hx
              exact .inr (by omega)
          · exact HS1.out x hx
        clear f10 hrow hOut hInn hys hbS hiS hAS hgk hR hM3 hK3 hs3 hszW hsz1 hP1 HS1 HK1 HY HA
        go_wp2
        refine bodyPost_end (results_none rfl _ _ _) rfl ?_
        refine ⟨rfl, _, ⟨_, _, _, hP3.out⟩, hK4.out, hS4.out⟩


end Go.Proofs.YtghgffhcdnmpnaaGreat
/-
  (BalanceStrategyPlan).Add once more: the members that are there stay. Conditions: something is added.
-/
namespace Go.Proofs.YtghgffhcdnmpnaaGreat
open Go.RowKit
set_option maxRecDepth 100000 in
set_option maxHeartbeats 1600000 in
/-- (BalanceStrategyPlan).Add: the members stay, and there is k. -/
theorem add_keys (S : List Nat) (b : Nat) (f : ByteArray → ByteArray → List Int) (ks : List ByteArray) (I : ByteArray → Nat) (M : ByteArray → List (ByteArray × Value)) (k t : ByteArray) (v : Value) (X : Nat → Prop) (xs : List Int) (w : World) (hP : PlanWith w S b f ks I M) (hv : SlAt w X 1 v (ints xs)) (hX : ∀ x, X x → x ∉ S) (hsz : (f k t).length + xs.length ≤ 1000000000) (h0 : 0 < xs.length) :
    Calls Tryz.prog 75 #[.map (some b), .string k, .string t, v] w fun e w' => e = .returned (.tuple #[]) ∧ ∃ S' ks' I' M', PlanWith w' S' b (upd2 f k t (f k t ++ xs)) ks' I' M' ∧ (∀ x ∈ ks, x ∈ ks') ∧ (∀ x ∈ ks', x ∈ ks ∨ x = k) ∧ k ∈ ks' ∧ Kept S w w' ∧ ∀ x ∈ S', x ∈ S ∨ w.heap.size ≤ x := by
  obtain ⟨A, n, c, rfl, hys, hys2, _⟩ := hv
  have hxn : xs.length = n := by have := hys.1; simpa [ints] using this
  have hn0 : 0 < n := by omega
  clear h0
  · have hne : ¬ ((n : Int) = 0) := by omega
    have hAS0 : ∀ a, A = some a → a.block ∉ S := fun a ha => hX _ (hys2 a ha (by omega))
    have HOut := Lib.hid hP.outer
    have HP := Lib.hid hP
    have HY := Lib.hid hys
    have HA := Lib.hid hAS0
    have hmm : ∀ (w : World), (Instr.makeMap 89 (some (.int .i64 1))).run Tryz.prog w = .ok (.map (some w.heap.size)) (w.alloc (.map #[] 0)) := fun w => by
      simp [Instr.makeMap, asInt, asIntOf]
    by_cases hk : k ∈ ks
    · have hmg : mget (ks.map fun k => (k, Value.map (some (I k)))) k = some (.map (some (I k))) := mget_outer I hk
      have HMG := Lib.hid hmg
      clear hP hys hys2 hX hmg hAS0
      go_enter Tryz.func75, Tryz.ntmps75
      go_wp2_with (refine wl_lookup_ok rfl _ _ 83 rfl 89 Tryz.underlying83 str9 (.map none) (Tryz.zeroValue89 _) b _ rfl HOut.out k rfl ?_; rw [HMG.out])
      have HS1 : Hid (∀ x ∈ S, x ∈ S ∨ w.heap.size ≤ x) := fun x hx => .inl hx
      have HK1 : Hid (Kept S w w) := Kept.refl _ _
      have hP1 := HP.out
      have hk1 := hk
      clear HP HOut HMG
      obtain ⟨u0, hu0⟩ : ∃ u0, (mget (M k) t).getD (.slice none 0 0) = u0 := ⟨_, rfl⟩
      have hrow := hP1.row hk1 t
      rw [hu0] at hrow
      have hOut := hP1.outer
      have hInn := hP1.inner k hk1
      have hys : SlIs w 1 A n (ints xs) := HY.out.kept HK1.out (fun a ha => HA.out a ha)
      have hbS : b ∉ u0.ownBlock.toList := fun hm => own_map_ne hrow.1 hOut b (by simpa using hm) rfl
      have hiS : I k ∉ u0.ownBlock.toList := fun hm => own_map_ne hrow.1 hInn (I k) (by simpa using hm) rfl
      have hAS : ∀ a, A = some a → a.block ∉ u0.ownBlock.toList := fun a ha hm => by
        rcases HS1.out _ (hrow.2 _ (by simpa using hm)) with h | h
        · exact HA.out a ha h
        · obtain ⟨bb, off, hb, hc⟩ := HY.out.2.2 (by omega)
          have hlen : 0 < (ints xs).length := by have := HY.out.1; omega
          have hlt : bb < w.heap.size := World.block_lt_of_cell? w _ (hc 0 _ (List.getElem?_eq_getElem hlen))
          rw [hb] at ha
          have := Option.some.inj ha
          subst this
          simp only at h
          omega
      have hgk : (mget (ks.map fun k => (k, Value.map (some (I k)))) k).getD (.map none) = .map (some (I k)) := by rw [mget_outer I hk1]; rfl
      refine wp_region_effs' 11 (Kept u0.ownBlock.toList) (adE u0) (adPre u0 (f k t).length (f k t)) (adF b k t (I k) u0 (.slice A n c) (f k t ++ xs).length (f k t ++ xs) w.heap.size) mixed (by kernel_rfl) ((Kept.refl _ _).drew) (fun i _ _ _ h k => adE_R h k) (fun i _ _ => hrow.1) adF_stable adPre_stable ?_ ?_
      · refine ⟨?_, ?_, ?_, ?_, ?_, ?_, ?_, ?_, ?_, ?_, ?_, trivial⟩
        all_goals go_light
        all_goals intro a W hR hpre hs hd
        all_goals have p0 : a.tmps[0]? = some (.map (some b)) := hs.2.2 0 (by decide)
        all_goals have p1 : a.tmps[1]? = some (.string k) := hs.2.2 1 (by decide)
        all_goals have p2 : a.tmps[2]? = some (.string t) := hs.2.2 2 (by decide)
        all_goals have p3 : a.tmps[3]? = some (.slice A n c) := hs.2.2 3 (by decide)
        all_goals have hRr : Kept [] W W := Kept.refl [] W
        · refine ow_value (w' := W) (v := .map (some b)) ?_ (.mk hRr rfl rfl)
          simp [go_sem, p0]
        · refine ow_value (w' := W) (v := .string k) ?_ (.mk hRr rfl rfl)
          simp [go_sem, p1]
        · have q0 : _ = _ := hd.1 rfl
          have q1 : _ = _ := hd.2.1 rfl
          refine ow_value (w' := W) (v := .map (some (I k))) ?_ (.mk hRr rfl rfl)
          have hl := (MapIs.run_lookup (P := Tryz.prog) str9 Tryz.underlying83 (hOut.kept hR hbS) (z := .map none) (Tryz.zeroValue89 W) k)
          rw [hgk] at hl
          simp [go_sem, q0, q1, hl]
        · refine ow_value (w' := W) (v := .string t) ?_ (.mk hRr rfl rfl)
          simp [go_sem, p2]
        · refine ow_value (w' := W) (v := .map (some b)) ?_ (.mk hRr rfl rfl)
          simp [go_sem, p0]
        · refine ow_value (w' := W) (v := .string k) ?_ (.mk hRr rfl rfl)
          simp [go_sem, p1]
        · have q4 : _ = _ := hd.1 rfl
          have q5 : _ = _ := hd.2.1 rfl
          refine ow_value (w' := W) (v := .map (some (I k))) ?_ (.mk hRr rfl rfl)
          have hl := (MapIs.run_lookup (P := Tryz.prog) str9 Tryz.underlying83 (hOut.kept hR hbS) (z := .map none) (Tryz.zeroValue89 W) k)
          rw [hgk] at hl
          simp [go_sem, q4, q5, hl]
        · refine ow_value (w' := W) (v := .string t) ?_ (.mk hRr rfl rfl)
          simp [go_sem, p2]
        · have q6 : _ = _ := hd.1 rfl
          have q7 : _ = _ := hd.2.1 rfl
          refine ow_value (w' := W) (v := u0) ?_ (.mk hRr rfl rfl)
          have hl := (MapIs.run_lookup (P := Tryz.prog) str9 Tryz.underlying89 (hInn.kept hR hiS) (z := .slice none 0 0) (Tryz.zeroValue49 W) t)
          rw [hu0] at hl
          simp [go_sem, q6, q7, hl]
        · refine ow_value (w' := W) (v := .slice A n c) ?_ (.mk hRr rfl rfl)
          simp [go_sem, p3]
        · have q8 : _ = _ := hd.1 rfl
          have q9 : _ = _ := hd.2.1 rfl
          have hown := hpre rfl
          refine ow_append _ _ 49 rfl 0 21 Tryz.underlying49 info21 rfl (by decide) u0 _ _ (by simp [go_sem, q8]) hown A n c _ (by simp [go_sem, q9]) (hys.kept hR hAS) (ints_one _) (by omega) (by omega) (Nat.zero_le _) ?_
          intro v' w' h1 h2 h3
          refine ⟨v', rfl, h2, ⟨?_, ?_⟩, fun h => by cases h⟩
          · rw [show ints (f k t ++ xs) = ints (f k t) ++ ints xs from List.map_append]
            rw [show (f k t ++ xs).length = (f k t).length + n by rw [List.length_append, hxn]]
            exact h1
          · rcases h3 with h3 | h3
            · exact .inl h3
            · exact .inr ⟨_, h3, hR.size⟩
      · intro fv W hR hf
        obtain ⟨f0, f1, f2, f3, f4, f5, f6, f7, f8, f9, f10, -⟩ := hf
        change fv 24 = _ at f0
        change fv 25 = _ at f1
        change fv 26 = _ at f2
        change fv 27 = _ at f3
        change fv 28 = _ at f4
        change fv 29 = _ at f5
        change fv 30 = _ at f6
        change fv 31 = _ at f7
        change fv 32 = _ at f8
        change fv 33 = _ at f9
        change W.ownsRow 0 21 1 (fv 34) (f k t ++ xs).length (ints (f k t ++ xs)) ∧ ((fv 34).ownBlock = u0.ownBlock ∨ ∃ g, (fv 34).ownBlock = some g ∧ w.heap.size ≤ g) at f10
        obtain ⟨x10, g10⟩ : ∃ x, fv 34 = x := ⟨_, rfl⟩
        rw [g10] at f10
        simp only [headDsts, List.take_succ_cons, List.take_zero, List.filterMap_cons, List.filterMap_nil, setAll, f0, f1, f2, f3, f4, f5, f6, f7, f8, f9, g10, List.setIfInBounds_toArray, List.set_cons_succ, List.set_cons_zero, List.drop_succ_cons, List.drop_zero]
        clear f0 f1 f2 f3 f4 f5 f6 f7 f8 f9 g10 fv
        have hszW := hR.size
        have hsz1 := HK1.out.size
        refine wl_update rfl _ _ _ 89 rfl 49 Tryz.underlying89 str9 (I k) (M k) rfl (hInn.kept hR hiS) t rfl x10 rfl ?_
        intro w3 hM3 hK3 hs3
        have hP3 := Lib.hid (hP1.add hk1 t x10 (f k t ++ xs) f10.1 (hu0.symm ▸ hR) (hu0.symm ▸ f10.2) hM3 hK3)
        have hK4 : Hid (Kept S w w3) := by
          refine (HK1.out.trans (hR.mono (T := S) (fun x hx => hrow.2 x (by simpa using hx))) (fun x hx => HS1.out x hx)).trans hK3 (fun x hx => ?_)
          have hx' : x = I k := by simpa using hx
          exact hx' ▸ HS1.out _ (hP1.innerS k hk1).1
        have hS4 : Hid (∀ x ∈ x10.ownBlock.toList ++ S, x ∈ S ∨ w.heap.size ≤ x) := by
          intro x hx
          rcases List.mem_append.1 hx with hx | hx
          · rcases f10.2 with h | ⟨g, h, hg⟩
            · exact HS1.out x (hrow.2 x (by rw [← h]; simpa using hx))
            · rw [h] at hx
              have : x = g := by simpa using hx
              exact .inr (by omega)
          · exact HS1.out x hx
        clear f10 hrow hOut hInn hys hbS hiS hAS hgk hR hM3 hK3 hs3 hszW hsz1 hP1 HS1 HK1 HY HA
        go_wp2
        refine bodyPost_end (results_none rfl _ _ _) rfl ?_
        exact ⟨rfl, _, _, ⟨_, _, hP3.out⟩, fun x hx => hx, fun x hx => .inl hx, hk1, hK4.out, hS4.out⟩

    · have hmg : mget (ks.map fun k => (k, Value.map (some (I k)))) k = none := mget_outer_none I hk
      have HMG := Lib.hid hmg
      clear hP hys hys2 hX hmg hAS0
      go_enter Tryz.func75, Tryz.ntmps75
      go_wp2_with (first | (refine wl_lookup_ok rfl _ _ 83 rfl 89 Tryz.underlying83 str9 (.map none) (Tryz.zeroValue89 _) b _ rfl HOut.out k rfl ?_; rw [HMG.out]) | (refine wl_update rfl _ _ _ 83 rfl 89 Tryz.underlying83 str9 b _ rfl (HOut.out.alloc _) k rfl _ rfl ?_; intro w2 hM2 hK2 hs2; have HM2 := Lib.hid hM2; have HK2 := Lib.hid hK2; clear hM2 hK2))
      dsimp only [Act.put]
      have hP1 : PlanWith w2 (w.heap.size :: S) b f (ks ++ [k]) (upd I k w.heap.size) (upd M k []) := by
        have h1 := HM2.out
        rw [mset_new _ HMG.out] at h1
        have hb := HOut.out.lt
        exact HP.out.member k hk h1 ((MapIs.new _ _).kept HK2.out (by simp; omega)) (((Kept.refl _ _).alloc _).trans HK2.out (fun x hx => .inl hx)) (Nat.le_refl _)
      have HS1 : Hid (∀ x ∈ w.heap.size :: S, x ∈ S ∨ w.heap.size ≤ x) := by
        intro x hx
        rcases List.mem_cons.1 hx with rfl | hx
        · exact .inr (Nat.le_refl _)
        · exact .inl hx
      have HK1 : Hid (Kept S w w2) := ((Kept.refl _ _).alloc _).trans HK2.out (fun x hx => by
        have hx' : x = b := by simpa using hx
        exact .inl (hx' ▸ HP.out.bS))
      have hk1 : k ∈ ks ++ [k] := by simp
      clear HM2 HMG HP HOut HK2 hs2
      obtain ⟨I1, hI1⟩ : ∃ I1, upd I k w.heap.size = I1 := ⟨_, rfl⟩
      obtain ⟨M1, hM1⟩ : ∃ M1, upd M k [] = M1 := ⟨_, rfl⟩
      obtain ⟨ks1, hks1⟩ : ∃ ks1, ks ++ [k] = ks1 := ⟨_, rfl⟩
      obtain ⟨S1, hS1⟩ : ∃ S1, w.heap.size :: S = S1 := ⟨_, rfl⟩
      rw [hI1, hM1, hks1, hS1] at hP1
      rw [hS1] at HS1
      rw [hks1] at hk1
      have HSUB : Hid (∀ x ∈ ks, x ∈ ks1) := fun x hx => by rw [← hks1]; exact List.mem_append_left _ hx
      have HSUB2 : Hid (∀ x ∈ ks1, x ∈ ks ∨ x = k) := fun x hx => by rw [← hks1] at hx; simpa using hx
      clear hI1 hM1 hks1 hS1
      obtain ⟨u0, hu0⟩ : ∃ u0, (mget (M1 k) t).getD (.slice none 0 0) = u0 := ⟨_, rfl⟩
      have hrow := hP1.row hk1 t
      rw [hu0] at hrow
      have hOut := hP1.outer
      have hInn := hP1.inner k hk1
      have hys : SlIs w2 1 A n (ints xs) := HY.out.kept HK1.out (fun a ha => HA.out a ha)
      have hbS : b ∉ u0.ownBlock.toList := fun hm => own_map_ne hrow.1 hOut b (by simpa using hm) rfl
      have hiS : I1 k ∉ u0.ownBlock.toList := fun hm => own_map_ne hrow.1 hInn (I1 k) (by simpa using hm) rfl
      have hAS : ∀ a, A = some a → a.block ∉ u0.ownBlock.toList := fun a ha hm => by
        rcases HS1.out _ (hrow.2 _ (by simpa using hm)) with h | h
        · exact HA.out a ha h
        · obtain ⟨bb, off, hb, hc⟩ := HY.out.2.2 (by omega)
          have hlen : 0 < (ints xs).length := by have := HY.out.1; omega
          have hlt : bb < w.heap.size := World.block_lt_of_cell? w _ (hc 0 _ (List.getElem?_eq_getElem hlen))
          rw [hb] at ha
          have := Option.some.inj ha
          subst this
          simp only at h
          omega
      have hgk : (mget (ks1.map fun k => (k, Value.map (some (I1 k)))) k).getD (.map none) = .map (some (I1 k)) := by rw [mget_outer I1 hk1]; rfl
      refine wp_region_effs' 11 (Kept u0.ownBlock.toList) (adE u0) (adPre u0 (f k t).length (f k t)) (adF b k t (I1 k) u0 (.slice A n c) (f k t ++ xs).length (f k t ++ xs) w2.heap.size) mixed (by kernel_rfl) ((Kept.refl _ _).drew) (fun i _ _ _ h k => adE_R h k) (fun i _ _ => hrow.1) adF_stable adPre_stable ?_ ?_
      · refine ⟨?_, ?_, ?_, ?_, ?_, ?_, ?_, ?_, ?_, ?_, ?_, trivial⟩
        all_goals go_light
        all_goals intro a W hR hpre hs hd
        all_goals have p0 : a.tmps[0]? = some (.map (some b)) := hs.2.2 0 (by decide)
        all_goals have p1 : a.tmps[1]? = some (.string k) := hs.2.2 1 (by decide)
        all_goals have p2 : a.tmps[2]? = some (.string t) := hs.2.2 2 (by decide)
        all_goals have p3 : a.tmps[3]? = some (.slice A n c) := hs.2.2 3 (by decide)
        all_goals have hRr : Kept [] W W := Kept.refl [] W
        · refine ow_value (w' := W) (v := .map (some b)) ?_ (.mk hRr rfl rfl)
          simp [go_sem, p0]
        · refine ow_value (w' := W) (v := .string k) ?_ (.mk hRr rfl rfl)
          simp [go_sem, p1]
        · have q0 : _ = _ := hd.1 rfl
          have q1 : _ = _ := hd.2.1 rfl
          refine ow_value (w' := W) (v := .map (some (I1 k))) ?_ (.mk hRr rfl rfl)
          have hl := (MapIs.run_lookup (P := Tryz.prog) str9 Tryz.underlying83 (hOut.kept hR hbS) (z := .map none) (Tryz.zeroValue89 W) k)
          rw [hgk] at hl
          simp [go_sem, q0, q1, hl]
        · refine ow_value (w' := W) (v := .string t) ?_ (.mk hRr rfl rfl)
          simp [go_sem, p2]
        · refine ow_value (w' := W) (v := .map (some b)) ?_ (.mk hRr rfl rfl)
          simp [go_sem, p0]
        · refine ow_value (w' := W) (v := .string k) ?_ (.mk hRr rfl rfl)
          simp [go_sem, p1]
        · have q4 : _ = _ := hd.1 rfl
          have q5 : _ = _ := hd.2.1 rfl
          refine ow_value (w' := W) (v := .map (some (I1 k))) ?_ (.mk hRr rfl rfl)
          have hl := (MapIs.run_lookup (P := Tryz.prog) str9 Tryz.underlying83 (hOut.kept hR hbS) (z := .map none) (Tryz.zeroValue89 W) k)
          rw [hgk] at hl
          simp [go_sem, q4, q5, hl]
        · refine ow_value (w' := W) (v := .string t) ?_ (.mk hRr rfl rfl)
          simp [go_sem, p2]
        · have q6 : _ = _ := hd.1 rfl
          have q7 : _ = _ := hd.2.1 rfl
          refine ow_value (w' := W) (v := u0) ?_ (.mk hRr rfl rfl)
          have hl := (MapIs.run_lookup (P := Tryz.prog) str9 Tryz.underlying89 (hInn.kept hR hiS) (z := .slice none 0 0) (Tryz.zeroValue49 W) t)
          rw [hu0] at hl
          simp [go_sem, q6, q7, hl]
        · refine ow_value (w' := W) (v := .slice A n c) ?_ (.mk hRr rfl rfl)
          simp [go_sem, p3]
        · have q8 : _ = _ := hd.1 rfl
          have q9 : _ = _ := hd.2.1 rfl
          have hown := hpre rfl
          refine ow_append _ _ 49 rfl 0 21 Tryz.underlying49 info21 rfl (by decide) u0 _ _ (by simp [go_sem, q8]) hown A n c _ (by simp [go_sem, q9]) (hys.kept hR hAS) (ints_one _) (by omega) (by omega) (Nat.zero_le _) ?_
          intro v' w' h1 h2 h3
          refine ⟨v', rfl, h2, ⟨?_, ?_⟩, fun h => by cases h⟩
          · rw [show ints (f k t ++ xs) = ints (f k t) ++ ints xs from List.map_append]
            rw [show (f k t ++ xs).length = (f k t).length + n by rw [List.length_append, hxn]]
            exact h1
          · rcases h3 with h3 | h3
            · exact .inl h3
            · exact .inr ⟨_, h3, hR.size⟩
      · intro fv W hR hf
        obtain ⟨f0, f1, f2, f3, f4, f5, f6, f7, f8, f9, f10, -⟩ := hf
        change fv 24 = _ at f0
        change fv 25 = _ at f1
        change fv 26 = _ at f2
        change fv 27 = _ at f3
        change fv 28 = _ at f4
        change fv 29 = _ at f5
        change fv 30 = _ at f6
        change fv 31 = _ at f7
        change fv 32 = _ at f8
        change fv 33 = _ at f9
        change W.ownsRow 0 21 1 (fv 34) (f k t ++ xs).length (ints (f k t ++ xs)) ∧ ((fv 34).ownBlock = u0.ownBlock ∨ ∃ g, (fv 34).ownBlock = some g ∧ w2.heap.size ≤ g) at f10
        obtain ⟨x10, g10⟩ : ∃ x, fv 34 = x := ⟨_, rfl⟩
        rw [g10] at f10
        simp only [headDsts, List.take_succ_cons, List.take_zero, List.filterMap_cons, List.filterMap_nil, setAll, f0, f1, f2, f3, f4, f5, f6, f7, f8, f9, g10, List.setIfInBounds_toArray, List.set_cons_succ, List.set_cons_zero, List.drop_succ_cons, List.drop_zero]
        clear f0 f1 f2 f3 f4 f5 f6 f7 f8 f9 g10 fv
        have hszW := hR.size
        have hsz1 := HK1.out.size
        refine wl_update rfl _ _ _ 89 rfl 49 Tryz.underlying89 str9 (I1 k) (M1 k) rfl (hInn.kept hR hiS) t rfl x10 rfl ?_
        intro w3 hM3 hK3 hs3
        have hP3 := Lib.hid (hP1.add hk1 t x10 (f k t ++ xs) f10.1 (hu0.symm ▸ hR) (hu0.symm ▸ f10.2) hM3 hK3)
        have hK4 : Hid (Kept S w w3) := by
          refine (HK1.out.trans (hR.mono (T := S1) (fun x hx => hrow.2 x (by simpa using hx))) (fun x hx => HS1.out x hx)).trans hK3 (fun x hx => ?_)
          have hx' : x = I1 k := by simpa using hx
          exact hx' ▸ HS1.out _ (hP1.innerS k hk1).1
        have hS4 : Hid (∀ x ∈ x10.ownBlock.toList ++ S1, x ∈ S ∨ w.heap.size ≤ x) := by
          intro x hx
          rcases List.mem_append.1 hx with hx | hx
          · rcases f10.2 with h | ⟨g, h, hg⟩
            · exact HS1.out x (hrow.2 x (by rw [← h]; simpa using hx))
            · rw [h] at hx
              have : x = g := by simpa using hx
              exact .inr (by omega)
          · exact HS1.out x hx
        clear f10 hrow hOut hInn hys hbS hiS hAS hgk hR hM3 hK3 hs3 hszW hsz1 hP1 HS1 HK1 HY HA
        go_wp2
        refine bodyPost_end (results_none rfl _ _ _) rfl ?_
        exact ⟨rfl, _, _, ⟨_, _, hP3.out⟩, HSUB.out, HSUB2.out, hk1, hK4.out, hS4.out⟩


end Go.Proofs.YtghgffhcdnmpnaaGreat
