/-
  A map of topics to rows of members; a map of members' metadata; what the strategy by ranges gives, in plain Lean.
-/
import Derived.Test.YtghgffhcdnmpnaaGreatC8
namespace Go.Proofs.YtghgffhcdnmpnaaGreat
open Go.RowKit Go.Sort

theorem beq_bytes (a b : ByteArray) : (a == b) = decide (a = b) := by
  cases a with
  | mk x =>
    cases b with
    | mk y =>
      show (x == y) = _
      by_cases h : x = y
      · subst h; simp
      · have : ¬ (ByteArray.mk x = ByteArray.mk y) := fun e => h (by injection e)
        simp [h, this]
instance lawful_bytes : LawfulBEq ByteArray where
  eq_of_beq {a b} h := by rw [beq_bytes] at h; simpa using h
  rfl {a} := by rw [beq_bytes]; simp

structure RmWith (w : World) (S : List Nat) (b : Nat) (h : ByteArray → List ByteArray) (m : List (ByteArray × Value)) : Prop where
  bS : b ∈ S
  map : MapIs Value.string w b m
  rows : ∀ t u, (t, u) ∈ m → w.ownsRow 0 9 1 u (h t).length (strs (h t))
  rowsS : ∀ t u, (t, u) ∈ m → ∀ g, u.ownBlock = some g → g ∈ S
  apart : ∀ t u t' u' g, (t, u) ∈ m → (t', u') ∈ m → u.ownBlock = some g → u'.ownBlock = some g → t = t'
  nil : ∀ t, t ∉ m.map Prod.fst → h t = []
  some' : ∀ t u, (t, u) ∈ m → h t ≠ []

theorem RmWith.kept {w w' : World} {S T : List Nat} {b : Nat} {h : ByteArray → List ByteArray} {m : List (ByteArray × Value)} (r : RmWith w S b h m) (k : Kept T w w') (hT : ∀ x, x ∈ S → x ∉ T) : RmWith w' S b h m where
  bS := r.bS
  map := r.map.kept k (hT _ r.bS)
  rows := fun t u hu => k.own (r.rows t u hu) (fun g hg => hT _ (r.rowsS t u hu g hg))
  rowsS := r.rowsS
  apart := r.apart
  nil := r.nil
  some' := r.some'
theorem RmWith.new {w : World} {b : Nat} (hm : MapIs Value.string w b []) : RmWith w [b] b (fun _ => []) [] :=
  ⟨by simp, hm, by simp, by simp, by simp, fun _ _ => rfl, by simp⟩
theorem RmWith.row {w : World} {S : List Nat} {b : Nat} {h : ByteArray → List ByteArray} {m : List (ByteArray × Value)} (r : RmWith w S b h m) (t : ByteArray) :
    w.ownsRow 0 9 1 ((mget m t).getD (.slice none 0 0)) (h t).length (strs (h t)) ∧ ∀ g, ((mget m t).getD (.slice none 0 0)).ownBlock = some g → g ∈ S := by
  cases hm : mget m t with
  | none =>
    rw [r.nil t (mget_none_iff.1 hm)]
    exact ⟨World.ownsRow_nil _ _ _ _, fun g hg => by cases hg⟩
  | some u => exact ⟨r.rows t u (mem_of_mget hm), r.rowsS t u (mem_of_mget hm)⟩

/-- A member is put behind a topic's. -/
theorem RmWith.push {w w1 w2 : World} {S : List Nat} {b : Nat} {h : ByteArray → List ByteArray} {m : List (ByteArray × Value)} (r : RmWith w S b h m) (t : ByteArray) (v : Value) (zs : List ByteArray) (hz : zs ≠ [])
    (hrow : w1.ownsRow 0 9 1 v zs.length (strs zs)) (hk1 : Kept ((mget m t).getD (.slice none 0 0)).ownBlock.toList w w1) (hv : v.ownBlock = ((mget m t).getD (.slice none 0 0)).ownBlock ∨ ∃ g, v.ownBlock = some g ∧ w.heap.size ≤ g)
    (hm : MapIs Value.string w2 b (mset m t v)) (hk2 : Kept [b] w1 w2) :
    RmWith w2 (v.ownBlock.toList ++ S) b (upd h t zs) (mset m t v) := by
  have hr := r.row t
  obtain ⟨u0, hu0⟩ : ∃ u0, (mget m t).getD (.slice none 0 0) = u0 := ⟨_, rfl⟩
  rw [hu0] at hr hk1 hv
  have hnd := r.map.nodup
  have hb0 : b ∉ u0.ownBlock.toList := fun hm => own_map_ne hr.1 r.map b (by simpa using hm) rfl
  have hb1 : MapIs Value.string w1 b m := r.map.kept hk1 hb0
  have hsame : ∀ s u g, (s, u) ∈ m → u.ownBlock = some g → u0.ownBlock = some g → s = t := by
    intro s u g hu hg h0
    cases hmg : mget m t with
    | none =>
      rw [hmg] at hu0
      subst hu0
      cases h0
    | some u1 =>
      rw [hmg] at hu0
      have hu0 : u1 = u0 := hu0
      subst hu0
      exact r.apart s u t u1 g hu (mem_of_mget hmg) hg h0
  have hother : ∀ s u, (s, u) ∈ m → s ≠ t → w2.ownsRow 0 9 1 u (h s).length (strs (h s)) := by
    intro s u hu hne
    have h1 := hk1.own (r.rows s u hu) (fun g hg hm => hne (hsame s u g hu hg (by simpa using hm)))
    exact hk2.own h1 (fun g hg => by simpa using own_map_ne h1 hb1 g hg)
  have hnew : w2.ownsRow 0 9 1 v zs.length (strs zs) := hk2.own hrow (fun g hg => by simpa using own_map_ne hrow hb1 g hg)
  have hvap : ∀ s u g, (s, u) ∈ m → v.ownBlock = some g → u.ownBlock = some g → s = t := by
    intro s u g hu hv' hg
    rcases hv with hv | ⟨g', hv, hge⟩
    · exact hsame s u g hu hg (hv ▸ hv')
    · have := own_lt (r.rows s u hu) g hg
      rw [hv'] at hv
      have : g = g' := Option.some.inj hv
      omega
  refine ⟨List.mem_append_right _ r.bS, hm, ?_, ?_, ?_, ?_, ?_⟩
  · intro s u hu
    rcases mem_mset hnd hu with ⟨rfl, rfl⟩ | ⟨hne, hu⟩
    · rw [upd_same]
      exact hnew
    · rw [upd_other _ _ hne]
      exact hother s u hu hne
  · intro s u hu g hg
    rcases mem_mset hnd hu with ⟨rfl, rfl⟩ | ⟨hne, hu⟩
    · exact List.mem_append_left _ (by simpa using hg)
    · exact List.mem_append_right _ (r.rowsS s u hu g hg)
  · intro s u s' u' g hu hu' hg hg'
    rcases mem_mset hnd hu with ⟨e1, e2⟩ | ⟨hne, hu1⟩ <;> rcases mem_mset hnd hu' with ⟨e3, e4⟩ | ⟨hne', hu2⟩
    · rw [e1, e3]
    · rw [e1, hvap s' u' g hu2 (e2 ▸ hg) hg']
    · rw [e3, hvap s u g hu1 (e4 ▸ hg') hg]
    · exact r.apart s u s' u' g hu1 hu2 hg hg'
  · intro s hs
    rw [keys_mset] at hs
    have hst : s ≠ t := by
      rintro rfl
      split at hs
      · rename_i hin
        exact hs hin
      · exact hs (by simp)
    rw [upd_other _ _ hst]
    refine r.nil s (fun hin => hs ?_)
    split
    · exact hin
    · exact List.mem_append_left _ hin
  · intro s u hu
    rcases mem_mset hnd hu with ⟨rfl, rfl⟩ | ⟨hne, hu⟩
    · rw [upd_same]
      exact hz
    · rw [upd_other _ _ hne]
      exact r.some' s u hu

/-! ### Members' metadata in memory -/
def isMeta (w : World) (X : Nat → Prop) (v : Value) (tops : List ByteArray) : Prop :=
  ∃ ver tv gen rp, v = .agg #[.int .i16 ver, tv, .slice none 0 0, .slice none 0 0, .int .i32 gen, .pointer rp] ∧ SlAt w X 1 tv (strs tops)
def MmAt (w : World) (X : Nat → Prop) (b : Nat) (l : List (ByteArray × List ByteArray)) : Prop :=
  X b ∧ ∃ m : List (ByteArray × Value × List ByteArray), MapIs Value.string w b (m.map fun e => (e.1, e.2.1)) ∧ m.map (fun e => (e.1, e.2.2)) = l ∧ ∀ e ∈ m, isMeta w (fun x => X x ∧ x ≠ b) e.2.1 e.2.2
theorem isMeta.kept {S : List Nat} {w w' : World} {X : Nat → Prop} {v : Value} {t : List ByteArray} (h : isMeta w X v t) (k : Kept S w w') (hS : ∀ x, X x → x ∉ S) : isMeta w' X v t := by
  obtain ⟨ver, tv, gen, rp, h1, h2⟩ := h
  exact ⟨ver, tv, gen, rp, h1, h2.kept k hS⟩
theorem MmAt.kept {S : List Nat} {w w' : World} {X : Nat → Prop} {b : Nat} {l : List (ByteArray × List ByteArray)} (h : MmAt w X b l) (k : Kept S w w') (hS : ∀ x, X x → x ∉ S) : MmAt w' X b l := by
  obtain ⟨h0, m, h1, h2, h3⟩ := h
  exact ⟨h0, m, h1.kept k (hS _ h0), h2, fun e he => (h3 e he).kept k (fun x hx => hS x hx.1)⟩

/-! ### What has been walked through -/
def walked {α : Type} (l : List α) (done : List Nat) : List α := done.filterMap fun i => l[i]?
theorem walked_snoc {α : Type} {l : List α} {done : List Nat} {i : Nat} {x : α} (hi : l[i]? = some x) : walked l (done ++ [i]) = walked l done ++ [x] := by
  simp [walked, hi]
theorem walked_all {α : Type} : ∀ (l : List α), (List.range l.length).filterMap (fun i => l[i]?) = l
  | [] => rfl
  | x :: l => by
    rw [List.length_cons, List.range_succ_eq_map, List.filterMap_cons, List.filterMap_map]
    have := walked_all l
    simpa [Function.comp_def] using this
theorem walked_perm {α : Type} {l : List α} {done : List Nat} (hn : done.Nodup) (hlt : ∀ i ∈ done, i < l.length) (hl : done.length = l.length) : (walked l done).Perm l := by
  have hall : ∀ i, i < l.length → i ∈ done := by
    intro i hi
    rcases Classical.em (i ∈ done) with h | h
    · exact h
    · have h2 : (i :: done).length ≤ (List.range l.length).length := List.Nodup.length_le_of_subset (List.nodup_cons.2 ⟨h, hn⟩) (fun j hj => by
        rcases List.mem_cons.1 hj with rfl | hj
        · simpa using hi
        · simpa using hlt j hj)
      simp at h2
      omega
  have hp : done.Perm (List.range l.length) := (List.perm_ext_iff_of_nodup hn List.nodup_range).2 (fun i => ⟨fun h => by simpa using hlt i h, fun h => hall i (by simpa using h)⟩)
  have h1 := hp.filterMap (fun i => l[i]?)
  have h2 := walked_all l
  rw [h2] at h1
  exact h1

/-! ### What the strategy by ranges gives -/
/-- The ids of those that want a topic. -/
def wantIds (l : List (ByteArray × List ByteArray)) (t : ByteArray) : List ByteArray := (l.filter fun p => decide (t ∈ p.2)).map Prod.fst
theorem wantIds_perm {l l' : List (ByteArray × List ByteArray)} (h : l.Perm l') (t : ByteArray) : (wantIds l t).Perm (wantIds l' t) := (h.filter _).map _
theorem wantIds_sub (l : List (ByteArray × List ByteArray)) (t : ByteArray) : List.Sublist (wantIds l t) (l.map Prod.fst) := (List.filter_sublist (l := l)).map _
/-- What a member gets of a topic. -/
def rangeOf (ids : List ByteArray) (ps : List Int) (k : ByteArray) : List Int := if k ∈ ids then rpart ps ids.length (ids.idxOf k) else []
def rangePlan (l : List (ByteArray × List ByteArray)) (tm : List (ByteArray × List Int)) (k t : ByteArray) : List Int := rangeOf (srt (wantIds l t)) (tget tm t) k

theorem rfold_closed (f : ByteArray → ByteArray → List Int) (ids : List ByteArray) (t : ByteArray) (ps : List Int) (n : Nat) (hn : ids.Nodup) (hf : ∀ k ∈ ids, f k t = []) (k s : ByteArray) : ∀ j, j ≤ ids.length →
    rfold f ids t ps n j k s = if s = t ∧ k ∈ ids.take j then rpart ps n (ids.idxOf k) else f k s
  | 0, _ => by simp [rfold]
  | j + 1, hj => by
    have ih := fun k s => rfold_closed f ids t ps n hn hf k s j (by omega)
    obtain ⟨x, hx⟩ : ∃ x, ids[j]? = some x := ⟨_, List.getElem?_eq_getElem (by omega)⟩
    have hxt : x ∉ ids.take j := by
      have := keys_take (fun y : ByteArray => y) (l := ids) (by simpa using hn) j x hx
      simpa using this
    have hxi : ids.idxOf x = j := by
      have hxe : ids[j] = x := by
        have := List.getElem?_eq_getElem (l := ids) (i := j) (by omega)
        rw [this] at hx
        exact Option.some.inj hx
      rw [← hxe]
      exact hn.idxOf_getElem j (by omega)
    have hxm : x ∈ ids := List.mem_of_getElem? hx
    simp only [rfold, hx]
    rw [take_one hx]
    by_cases hks : k = x ∧ s = t
    · obtain ⟨rfl, rfl⟩ := hks
      rw [ih k s]
      simp [upd2, hxt, hf k hxm, hxi]
    · rw [show upd2 (rfold f ids t ps n j) x t (rfold f ids t ps n j x t ++ rpart ps n j) k s = rfold f ids t ps n j k s by simp only [upd2, hks, if_false]]
      rw [ih k s]
      by_cases hst : s = t
      · have hkx : ¬ k = x := fun e => hks ⟨e, hst⟩
        simp [hst, hkx]
      · simp [hst]
theorem rfold_all (f : ByteArray → ByteArray → List Int) (ids : List ByteArray) (t : ByteArray) (ps : List Int) (hn : ids.Nodup) (hf : ∀ k, f k t = []) (k s : ByteArray) :
    rfold f ids t ps ids.length ids.length k s = if s = t then rangeOf ids ps k else f k s := by
  rw [rfold_closed f ids t ps ids.length hn (fun k _ => hf k) k s _ (Nat.le_refl _), List.take_length]
  by_cases hst : s = t
  · subst hst
    by_cases hk : k ∈ ids
    · simp [hk, rangeOf]
    · simp [hk, rangeOf, hf]
  · simp [hst]
end Go.Proofs.YtghgffhcdnmpnaaGreat
