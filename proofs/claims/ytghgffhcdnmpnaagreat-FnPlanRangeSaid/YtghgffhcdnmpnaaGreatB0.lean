/-
  Base words of this seat's proofs, with no program in sight: what a call leaves of the memory that was there ('Kept'), a map's block as a list of keys and values ('MapIs'), an iterator over it ('IterIs'), and the laws of the operations on maps in the form that a walk takes. Conditions: none beyond each lemma's own.
-/
import Derived.WalkKit
import Derived.Maps.Own
import Derived.Laws.IdiomRangeMap
import Derived.Maps.RangeWalk
import Derived.Maps.OwnOps
import Derived.Maps.OwnSet
import Derived.Lib.Hide
import Derived.Deep.Draws
namespace Go.Proofs.YtghgffhcdnmpnaaGreat
open Go.RowKit Go.MapKept

/-! ### 1. What a call leaves -/

/-- All blocks of w but those listed are as they were. -/
structure Kept (S : List Nat) (w w' : World) : Prop where
  os : w'.os = w.os
  tape : w'.tape = w.tape
  output : w'.output = w.output
  size : w.heap.size ≤ w'.heap.size
  block : ∀ k, k < w.heap.size → k ∉ S → w'.heap[k]? = w.heap[k]?

theorem Kept.refl (S : List Nat) (w : World) : Kept S w w := ⟨rfl, rfl, rfl, Nat.le_refl _, fun _ _ _ => rfl⟩
theorem Kept.trans {S T : List Nat} {a b c : World} (h : Kept S a b) (k : Kept T b c) (hT : ∀ x, x ∈ T → x ∈ S ∨ a.heap.size ≤ x) : Kept S a c :=
  ⟨k.os.trans h.os, k.tape.trans h.tape, k.output.trans h.output, Nat.le_trans h.size k.size, fun i hi hS =>
    (k.block i (Nat.lt_of_lt_of_le hi h.size) (fun hm => (hT i hm).elim hS (fun hh => by omega))).trans (h.block i hi hS)⟩
theorem Kept.trans0 {S : List Nat} {a b c : World} (h : Kept S a b) (k : Kept [] b c) : Kept S a c := h.trans k (fun _ hx => by cases hx)
theorem Kept.mono {S T : List Nat} {a b : World} (h : Kept S a b) (hT : ∀ x, x ∈ S → x ∈ T) : Kept T a b :=
  ⟨h.os, h.tape, h.output, h.size, fun k hk hn => h.block k hk (fun hm => hn (hT k hm))⟩
theorem Kept.of_below {w w' : World} (h : Below w.heap.size w w') : Kept [] w w' := ⟨h.os, h.tape, h.output, h.size, fun k hk _ => h.block k hk⟩
theorem Kept.below {w w' : World} (h : Kept [] w w') : Below w.heap.size w w' := ⟨h.os, h.tape, h.output, h.size, fun k hk => h.block k hk (by simp)⟩
/-- Blocks from B on may have been written. -/
theorem Kept.belowB {S : List Nat} {B : Nat} {w w' : World} (h : Kept S w w') (hB : B ≤ w.heap.size) (hS : ∀ x, x ∈ S → B ≤ x) : Below B w w' :=
  ⟨h.os, h.tape, h.output, h.size, fun k hk => h.block k (by omega) (fun hm => by have := hS k hm; omega)⟩
theorem Kept.of_grown {w w' : World} {row : Option Nat} (h : w.grownBy w' row) : Kept row.toList w w' :=
  ⟨h.os, h.tape, h.output, h.size, fun k hk hn => h.block k hk (fun e => hn (by cases row <;> simp_all))⟩
theorem Kept.grown {w w' : World} (b : Nat) (h : Kept [b] w w') : w.grownBy w' (some b) :=
  ⟨h.os, h.tape, h.output, h.size, fun k hk hn => h.block k hk (fun hm => hn (by simp at hm; rw [hm]))⟩
theorem Kept.grown0 {w w' : World} (h : Kept [] w w') (row : Option Nat) : w.grownBy w' row :=
  ⟨h.os, h.tape, h.output, h.size, fun k hk _ => h.block k hk (by simp)⟩
theorem Kept.alloc {S : List Nat} {a w : World} (h : Kept S a w) (o : Obj) : Kept S a (w.alloc o) :=
  h.trans (T := []) ⟨rfl, rfl, rfl, by simp, fun k hk _ => Below.heap_alloc _ _ _ hk⟩ (fun _ hx => by cases hx)
theorem Kept.drew {S : List Nat} {a w : World} (h : Kept S a w) : Kept S a w.drew := ⟨h.os, h.tape, h.output, h.size, h.block⟩
theorem Kept.drewN {S : List Nat} {a w : World} (h : Kept S a w) (n : Nat) : Kept S a (w.drewN n) := ⟨h.os, h.tape, h.output, h.size, h.block⟩
theorem Kept.setCell {S : List Nat} {a w : World} (h : Kept S a w) {p : Addr} (hp : p.block ∈ S ∨ a.heap.size ≤ p.block) (u : Value) : Kept S a (w.setCell p u) :=
  h.trans (T := [p.block]) ⟨rfl, rfl, rfl, by simp [World.setCell], fun k _ hn => Below.heap_setCell _ _ _ _ (by simpa using hn)⟩ (fun x hx => by simp at hx; subst hx; exact hp)
theorem Kept.cell {S : List Nat} {w w' : World} (h : Kept S w w') {p : Addr} {v : Value} (hc : w.cell? p = some v) (hp : p.block ∉ S) : w'.cell? p = some v :=
  (World.cell?_of_block (h.block p.block (World.block_lt_of_cell? w p hc) hp)).trans hc
theorem Kept.frozen {S : List Nat} {w w' : World} (h : Kept S w w') {p : Addr} (hl : p.block < w.heap.size) (hp : p.block ∉ S) : w'.frozen? p = w.frozen? p :=
  World.frozen?_of_block (h.block p.block hl hp)
theorem Kept.heap {S : List Nat} {w w' : World} (h : Kept S w w') {b : Nat} {o : Obj} (hb : w.heap[b]? = some o) (hS : b ∉ S) : w'.heap[b]? = some o :=
  (h.block b (Array.getElem?_eq_some_iff.1 hb).1 hS).trans hb
theorem Kept.own {S : List Nat} {w w' : World} (h : Kept S w w') {base : Nat} {e : TypeId} {size n : Nat} {v : Value} {xs : List Value} (ho : w.ownsRow base e size v n xs) (hS : ∀ b, v.ownBlock = some b → b ∉ S) : w'.ownsRow base e size v n xs := by
  refine ⟨ho.1, ?_⟩
  rcases ho.2 with hn | ⟨g, cap, cur, rfl, hb, hgg, rest⟩
  · exact .inl hn
  · exact .inr ⟨g, cap, cur, rfl, hb, h.heap hgg (hS g rfl), rest⟩

/-! ### 2. A map's block -/

/-- The entries of a block are these keys and values, in this order. -/
def MapIs {κ : Type} (enc : κ → Value) (w : World) (b : Nat) (m : List (κ × Value)) : Prop :=
  ∃ es clock, w.heap[b]? = some (.map es clock) ∧ Stamped es clock ∧ es.toList.map (fun e => (e.key, e.val)) = m.map (fun p => (enc p.1, p.2))

section
variable {κ : Type} {enc : κ → Value} {w : World} {b : Nat} {m : List (κ × Value)}

theorem MapIs.lt (h : MapIs enc w b m) : b < w.heap.size := by
  obtain ⟨es, cl, hb, _⟩ := h
  exact (Array.getElem?_eq_some_iff.1 hb).1
theorem MapIs.kept {S : List Nat} {w' : World} (h : MapIs enc w b m) (k : Kept S w w') (hS : b ∉ S) : MapIs enc w' b m := by
  obtain ⟨es, cl, hb, r⟩ := h
  exact ⟨es, cl, k.heap hb hS, r⟩
theorem MapIs.alloc (h : MapIs enc w b m) (o : Obj) : MapIs enc (w.alloc o) b m := h.kept (S := []) ((Kept.refl _ _).alloc o) (by simp)
theorem MapIs.drew (h : MapIs enc w b m) : MapIs enc w.drew b m := h
theorem MapIs.drewN (h : MapIs enc w b m) (n : Nat) : MapIs enc (w.drewN n) b m := h
theorem MapIs.new (enc : κ → Value) (w : World) : MapIs enc (w.alloc (.map #[] 0)) w.heap.size [] := ⟨#[], 0, heap_alloc_new _ _, stamped_empty 0, rfl⟩
theorem MapIs.keys {es : Array MapEntry} (he : es.toList.map (fun e => (e.key, e.val)) = m.map (fun p => (enc p.1, p.2))) : es.toList.map (·.key) = (m.map Prod.fst).map enc := by
  have := congrArg (List.map Prod.fst) he
  simpa [List.map_map, Function.comp_def] using this
theorem nodup_of_map {α β : Type} (f : α → β) : ∀ {l : List α}, (l.map f).Nodup → l.Nodup
  | [], _ => List.nodup_nil
  | x :: l, h => by
    have h' := List.nodup_cons.1 (show (f x :: l.map f).Nodup from h)
    exact List.nodup_cons.2 ⟨fun hm => h'.1 (List.mem_map.2 ⟨x, hm, rfl⟩), nodup_of_map f h'.2⟩
/-- No key stands twice. -/
theorem MapIs.nodup (h : MapIs enc w b m) : (m.map Prod.fst).Nodup := by
  obtain ⟨es, cl, hb, hs, he⟩ := h
  have h3 := hs.2.2
  rw [MapIs.keys he] at h3
  exact nodup_of_map enc h3

theorem key_of {κ : Type} {enc : κ → Value} {m : List (κ × Value)} {es : Array MapEntry} (h : es.toList.map (fun e => (e.key, e.val)) = m.map (fun p => (enc p.1, p.2))) : ∀ e ∈ es.toList, ∃ k', e.key = enc k' := by
  intro e he
  have : (e.key, e.val) ∈ es.toList.map (fun e => (e.key, e.val)) := List.mem_map.2 ⟨e, he, rfl⟩
  rw [h] at this
  obtain ⟨p, _, hp⟩ := List.mem_map.1 this
  exact ⟨p.1, (congrArg Prod.fst hp).symm⟩

/-- What the map's operations do at keys of this make. -/
structure KeyOps (P : Program) (kt : TypeId) (enc : κ → Value) : Prop where
  inj : ∀ {a b : κ}, enc a = enc b → a = b
  check : ∀ (w : World) (em : Bool) (k : κ), (Instr.checkKey em 10000 kt (enc k)).run P w = .ok () w
  find : ∀ (w : World) (k : κ) (es : List MapEntry), (∀ e ∈ es, ∃ k', e.key = enc k') →
    ((Instr.findKey kt (enc k) es).run P w = .ok none w ∧ ∀ e ∈ es, e.key ≠ enc k) ∨ ∃ j e, (Instr.findKey kt (enc k) es).run P w = .ok (some (j, e.val)) w ∧ es[j]? = some e ∧ e.key = enc k
  stays : ∀ (w : World) (k : κ), (Instr.keyThatStays (enc k) (enc k)).run P w = .ok (enc k) w
end

section
variable {κ : Type} [DecidableEq κ] {enc : κ → Value}

/-- m[k], in the list. -/
def mget : List (κ × Value) → κ → Option Value
  | [], _ => none
  | p :: r, k => if p.1 = k then some p.2 else mget r k
/-- m[k] = v, in the list. -/
def mset : List (κ × Value) → κ → Value → List (κ × Value)
  | [], k, v => [(k, v)]
  | p :: r, k, v => if p.1 = k then (k, v) :: r else p :: mset r k v

theorem mget_mset_same (k : κ) (v : Value) : ∀ (m : List (κ × Value)), mget (mset m k v) k = some v
  | [] => by simp [mset, mget]
  | p :: r => by
    by_cases hp : p.1 = k
    · simp [mset, mget, hp]
    · simp [mset, mget, hp, mget_mset_same k v r]
theorem mget_mset_other {k k' : κ} (v : Value) (hne : k' ≠ k) : ∀ (m : List (κ × Value)), mget (mset m k v) k' = mget m k'
  | [] => by simp [mset, mget, Ne.symm hne]
  | p :: r => by
    by_cases hp : p.1 = k
    · subst hp
      simp [mset, mget, Ne.symm hne]
    · by_cases hq : p.1 = k'
      · subst hq
        simp [mset, mget, hp]
      · simp [mset, mget, hp, hq, mget_mset_other v hne r]
theorem mget_of_mem : ∀ {m : List (κ × Value)}, (m.map Prod.fst).Nodup → ∀ {k v}, (k, v) ∈ m → mget m k = some v
  | [], _, k, v, h => by cases h
  | p :: r, hn, k, v, h => by
    have hn' := List.nodup_cons.1 (show (p.1 :: r.map Prod.fst).Nodup from hn)
    rcases List.mem_cons.1 h with rfl | h
    · simp [mget]
    · have : p.1 ≠ k := fun e => hn'.1 (by rw [e]; exact List.mem_map.2 ⟨(k, v), h, rfl⟩)
      simp [mget, this, mget_of_mem hn'.2 h]
theorem mem_of_mget : ∀ {m : List (κ × Value)} {k v}, mget m k = some v → (k, v) ∈ m
  | [], k, v, h => by cases h
  | p :: r, k, v, h => by
    by_cases hp : p.1 = k
    · simp [mget, hp] at h
      subst h
      subst hp
      exact .head _
    · simp [mget, hp] at h
      exact .tail _ (mem_of_mget h)
theorem mget_none_iff : ∀ {m : List (κ × Value)} {k}, mget m k = none ↔ k ∉ m.map Prod.fst
  | [], k => by simp [mget]
  | p :: r, k => by
    by_cases hp : p.1 = k
    · simp [mget, hp]
    · simp only [mget, hp, if_false, List.map_cons, List.mem_cons, mget_none_iff]
      simp [Ne.symm hp]
theorem keys_mset (k : κ) (v : Value) : ∀ (m : List (κ × Value)), (mset m k v).map Prod.fst = if k ∈ m.map Prod.fst then m.map Prod.fst else m.map Prod.fst ++ [k]
  | [] => by simp [mset]
  | p :: r => by
    by_cases hp : p.1 = k
    · simp [mset, hp]
    · have ih := keys_mset k v r
      by_cases hk : k ∈ r.map Prod.fst
      · rw [if_pos hk] at ih
        rw [if_pos (by simp only [List.map_cons, List.mem_cons]; exact .inr hk)]
        simp [mset, hp, ih]
      · rw [if_neg hk] at ih
        rw [if_neg (by simp only [List.map_cons, List.mem_cons]; rintro (h | h); (exact hp h.symm); (exact hk h))]
        simp [mset, hp, ih]
theorem mset_new (v : Value) : ∀ {m : List (κ × Value)} {k : κ}, mget m k = none → mset m k v = m ++ [(k, v)]
  | [], k, _ => by simp [mset]
  | p :: r, k, h => by
    by_cases hp : p.1 = k
    · simp [mget, hp] at h
    · simp [mget, hp] at h
      simp [mset, hp, mset_new v h]
theorem mset_at (v : Value) : ∀ {m : List (κ × Value)} {k : κ} {j : Nat}, (m.map Prod.fst).Nodup → (m.map Prod.fst)[j]? = some k → mset m k v = m.set j (k, v)
  | [], k, j, _, h => by simp at h
  | p :: r, k, 0, _, h => by
    have : p.1 = k := by simpa using h
    simp [mset, this]
  | p :: r, k, j + 1, hn, h => by
    have hn' := List.nodup_cons.1 (show (p.1 :: r.map Prod.fst).Nodup from hn)
    have h' : (r.map Prod.fst)[j]? = some k := by simpa using h
    have : p.1 ≠ k := fun e => hn'.1 (by rw [e]; exact List.mem_of_getElem? h')
    simp [mset, this, mset_at v hn'.2 h']

variable {P : Program} {kt : TypeId} {m : List (κ × Value)} {w : World} {b : Nat}

/-- The key is found just where the list has it. -/
theorem MapIs.find {es : Array MapEntry} (K : KeyOps P kt enc) (hn : (es.toList.map (·.key)).Nodup) (he : es.toList.map (fun e => (e.key, e.val)) = m.map (fun p => (enc p.1, p.2))) (w : World) (k : κ) :
    (mget m k = none ∧ (Instr.findKey kt (enc k) es.toList).run P w = .ok none w ∧ ∀ e ∈ es.toList, e.key ≠ enc k) ∨
    ∃ j e, mget m k = some e.val ∧ (m.map Prod.fst)[j]? = some k ∧ (Instr.findKey kt (enc k) es.toList).run P w = .ok (some (j, e.val)) w ∧ es[j]? = some e ∧ e.key = enc k := by
  have hks := MapIs.keys he
  have hnm : (m.map Prod.fst).Nodup := by
    rw [hks] at hn
    exact nodup_of_map _ hn
  rcases K.find w k es.toList (key_of he) with ⟨h1, h2⟩ | ⟨j, e, h1, h2, h3⟩
  · refine .inl ⟨mget_none_iff.2 (fun hk => ?_), h1, h2⟩
    have : enc k ∈ es.toList.map (·.key) := by
      rw [hks]
      exact List.mem_map.2 ⟨k, hk, rfl⟩
    obtain ⟨e, he1, he2⟩ := List.mem_map.1 this
    exact h2 e he1 he2
  · have hj : (es.toList.map (fun e => (e.key, e.val)))[j]? = some (e.key, e.val) := by rw [List.getElem?_map, h2]; rfl
    rw [he, List.getElem?_map] at hj
    cases hp : m[j]? with
    | none => rw [hp] at hj; cases hj
    | some p =>
      rw [hp] at hj
      have hj' : (enc p.1, p.2) = (e.key, e.val) := by simpa using hj
      have hk : p.1 = k := K.inj ((congrArg Prod.fst hj').trans h3)
      have hv : p.2 = e.val := congrArg Prod.snd hj'
      refine .inr ⟨j, e, mget_of_mem hnm (List.mem_of_getElem? (i := j) (by rw [hp, ← hk, ← hv])), by rw [List.getElem?_map, hp, ← hk]; rfl, h1, by simpa using h2, h3⟩

theorem MapIs.run_lookup {t et : TypeId} (K : KeyOps P kt enc) (ht : P.underlying t = some (.map kt et)) (h : MapIs enc w b m) {z : Value} (hz : (zeroValue et).run P w = .ok z w) (k : κ) :
    (Instr.lookup t (.map (some b)) (enc k) false).run P w = .ok ((mget m k).getD z) w := by
  obtain ⟨es, cl, hb, hs, he⟩ := h
  rcases MapIs.find K hs.2.2 he w k with ⟨h1, h2, _⟩ | ⟨j, e, h1, _, h2, _, _⟩
  · simp [Instr.lookup, run_underlying ht, MapKept.run_getObj_map hb, K.check w _ k, h1, h2, hz, Result.andThen]
  · simp [Instr.lookup, run_underlying ht, MapKept.run_getObj_map hb, K.check w _ k, h1, h2, Result.andThen]
theorem MapIs.run_lookup_ok {t et : TypeId} (K : KeyOps P kt enc) (ht : P.underlying t = some (.map kt et)) (h : MapIs enc w b m) {z : Value} (hz : (zeroValue et).run P w = .ok z w) (k : κ) :
    (Instr.lookup t (.map (some b)) (enc k) true).run P w = .ok (.tuple #[(mget m k).getD z, .bool (mget m k).isSome]) w := by
  obtain ⟨es, cl, hb, hs, he⟩ := h
  rcases MapIs.find K hs.2.2 he w k with ⟨h1, h2, _⟩ | ⟨j, e, h1, _, h2, _, _⟩
  · simp [Instr.lookup, run_underlying ht, MapKept.run_getObj_map hb, K.check w _ k, h1, h2, hz, Result.andThen]
  · simp [Instr.lookup, run_underlying ht, MapKept.run_getObj_map hb, K.check w _ k, h1, h2, Result.andThen]

theorem MapIs.run_update {t et : TypeId} (K : KeyOps P kt enc) (ht : P.underlying t = some (.map kt et)) (h : MapIs enc w b m) (k : κ) (v : Value) :
    ∃ w', (Instr.mapUpdate t (.map (some b)) (enc k) v).run P w = .ok () w' ∧ MapIs enc w' b (mset m k v) ∧ Kept [b] w w' ∧ w'.heap.size = w.heap.size := by
  have hnm := h.nodup
  obtain ⟨es, cl, hb, hs, he⟩ := h
  have kept : ∀ o, Kept [b] w { w with heap := w.heap.setIfInBounds b o } := fun o =>
    ⟨rfl, rfl, rfl, by simp, fun k _ hn => (heap_set hb).2 k (by simpa using hn)⟩
  rcases MapIs.find K hs.2.2 he w k with ⟨h1, h2, h3⟩ | ⟨j, e, h1, hj, h2, h3, h4⟩
  · refine ⟨{ w with heap := w.heap.setIfInBounds b (.map (es.push { key := enc k, val := v, born := cl }) (cl + 1)) }, by simp [Instr.mapUpdate, run_underlying ht, MapKept.run_getObj_map hb, K.check w _ k, h2, run_setObj_map _ hb, Result.andThen], ?_, kept _, by simp⟩
    refine ⟨_, _, (heap_set hb).1, stamped_push hs h3, ?_⟩
    simp [mset_new v h1, he]
  · have hg : (((es[j]?).map (·.key)).getD (enc k)) = enc k := by rw [h3]; simp [h4]
    refine ⟨{ w with heap := w.heap.setIfInBounds b (.map (es.modify j fun e => { e with key := enc k, val := v }) cl) }, by simp only [Instr.mapUpdate, Sem.run_bind, run_underlying ht, MapKept.run_getObj_map hb, K.check w _ k, h2, hg, K.stays, run_setObj_map _ hb, Result.andThen], ?_, kept _, by simp⟩
    refine ⟨_, _, (heap_set hb).1, stamped_modify hs j _ (fun _ _ => rfl) (fun e' _ he' => by rw [h3] at he'; cases he'; exact h4.symm), ?_⟩
    rw [mset_at v hnm hj, List.map_set, ← he]
    apply List.ext_getElem?
    intro i
    simp only [List.getElem?_map, Array.getElem?_toList, Array.getElem?_modify, List.getElem?_set, List.length_map, Array.length_toList]
    have hlt : j < es.size := (Array.getElem?_eq_some_iff.1 h3).1
    by_cases hij : j = i
    · subst hij
      simp [hlt]
    · simp [hij]
end

/-! ### 3. The laws at the operations -/
section
variable {κ : Type} [DecidableEq κ] {enc : κ → Value} {w : World} {P : Program} {kt : TypeId} {ops : Array Oper} {rest : List Oper} {o : Oper} {a : Act} {Q : Exit → Act → World → Prop}

theorem wl_lookup (hg : o.guard = none) (mo x : Operand) (t : TypeId) (hop : o.op = Op.lookup t mo x false) (et : TypeId) (ht : P.underlying t = some (.map kt et)) (K : KeyOps P kt enc) (z : Value) (hz : (zeroValue et).run P w = .ok z w)
    (b : Nat) (m : List (κ × Value)) (hm : a.eval mo = .map (some b)) (hM : MapIs enc w b m) (k : κ) (hx : a.eval x = enc k)
    (hK : wpList P ops Q rest (a.put o.dst ((mget m k).getD z)) w) : wpList P ops Q (o :: rest) a w := by
  refine wpList_plain hg fun K' hK' => ?_
  unfold Oper.wp
  simp [execOp, hop, hm, hx, hM.run_lookup K ht hz k, Result.andThen]
  exact hK' _ _ hK
theorem wl_lookup_ok (hg : o.guard = none) (mo x : Operand) (t : TypeId) (hop : o.op = Op.lookup t mo x true) (et : TypeId) (ht : P.underlying t = some (.map kt et)) (K : KeyOps P kt enc) (z : Value) (hz : (zeroValue et).run P w = .ok z w)
    (b : Nat) (m : List (κ × Value)) (hm : a.eval mo = .map (some b)) (hM : MapIs enc w b m) (k : κ) (hx : a.eval x = enc k)
    (hK : wpList P ops Q rest (a.put o.dst (.tuple #[(mget m k).getD z, .bool (mget m k).isSome])) w) : wpList P ops Q (o :: rest) a w := by
  refine wpList_plain hg fun K' hK' => ?_
  unfold Oper.wp
  simp [execOp, hop, hm, hx, hM.run_lookup_ok K ht hz k, Result.andThen]
  exact hK' _ _ hK
theorem wl_update (hg : o.guard = none) (mo x vo : Operand) (t : TypeId) (hop : o.op = Op.mapUpdate t mo x vo) (et : TypeId) (ht : P.underlying t = some (.map kt et)) (K : KeyOps P kt enc)
    (b : Nat) (m : List (κ × Value)) (hm : a.eval mo = .map (some b)) (hM : MapIs enc w b m) (k : κ) (hx : a.eval x = enc k) (v : Value) (hv : a.eval vo = v)
    (hK : ∀ w', MapIs enc w' b (mset m k v) → Kept [b] w w' → w'.heap.size = w.heap.size → wpList P ops Q rest (a.put o.dst undef) w') : wpList P ops Q (o :: rest) a w := by
  obtain ⟨w', hrun, h1, h2, h3⟩ := hM.run_update K ht k v
  refine wpList_plain hg fun K' hK' => ?_
  unfold Oper.wp
  simp [execOp, hop, hm, hx, hv, hrun, Result.andThen]
  exact hK' _ _ (hK w' h1 h2 h3)
end

/-! ### 4. An iterator -/

/-- Block r is an iterator over block b, whose entries at the places 'done' it has handed out. -/
def IterIs {κ : Type} (enc : κ → Value) (w : World) (r b : Nat) (m : List (κ × Value)) (done : List Nat) : Prop :=
  r ≠ b ∧ done.Nodup ∧ (∀ i ∈ done, i < m.length) ∧ ∃ es clock seen c0, w.heap[b]? = some (.map es clock) ∧ Stamped es clock ∧ es.toList.map (fun e => (e.key, e.val)) = m.map (fun p => (enc p.1, p.2)) ∧
    w.heap[r]? = some (.mapIter (some b) clock seen c0) ∧ clock ≤ c0 ∧ (done ≠ [] → c0 = clock) ∧ seen.toList = done.map (fun i => (es[i]?.map (·.born)).getD 0)

section
variable {κ : Type} {enc : κ → Value} {w : World} {r b : Nat} {m : List (κ × Value)} {done : List Nat}
theorem IterIs.map (h : IterIs enc w r b m done) : MapIs enc w b m := by
  obtain ⟨_, _, _, es, cl, seen, c0, hb, hs, he, _⟩ := h
  exact ⟨es, cl, hb, hs, he⟩
theorem IterIs.lt (h : IterIs enc w r b m done) : r < w.heap.size := by
  obtain ⟨_, _, _, es, cl, seen, c0, hb, hs, he, hr, _⟩ := h
  exact (Array.getElem?_eq_some_iff.1 hr).1
theorem IterIs.kept {S : List Nat} {w' : World} (h : IterIs enc w r b m done) (k : Kept S w w') (hb : b ∉ S) (hr : r ∉ S) : IterIs enc w' r b m done := by
  obtain ⟨h1, h2, h3, es, cl, seen, c0, hb', hs, he, hr', rest⟩ := h
  exact ⟨h1, h2, h3, es, cl, seen, c0, k.heap hb' hb, hs, he, k.heap hr' hr, rest⟩
theorem IterIs.left (h : IterIs enc w r b m done) : done.length ≤ m.length := by
  have := List.Nodup.length_le_of_subset h.2.1 (l₂ := List.range m.length) (fun i hi => by simpa using h.2.2.1 i hi)
  simpa using this
end

section
variable {κ : Type} {enc : κ → Value} {P : Program}

theorem run_range_iter (w : World) (t kt et : TypeId) (b : Nat) (m : List (κ × Value)) (ht : P.underlying t = some (.map kt et)) (h : MapIs enc w b m) :
    ∃ w', (Instr.range t (.map (some b))).run P w = .ok (.pointer (some ⟨w.heap.size, 0, none⟩)) w' ∧ IterIs enc w' w.heap.size b m [] ∧ Kept [] w w' ∧ w'.heap.size = w.heap.size + 1 := by
  have hlt := h.lt
  obtain ⟨es, cl, hb, hs, he⟩ := h
  refine ⟨_, run_range_map w t kt et b es cl ht hb, ⟨by omega, List.nodup_nil, by simp, es, cl, #[], cl, ?_, hs, he, heap_alloc_new _ _, Nat.le_refl _, by simp, by simp⟩, (Kept.refl _ _).alloc _, by simp⟩
  rw [heap_alloc_old _ _ hlt, hb]

theorem next_none {w : World} {r b : Nat} {m : List (κ × Value)} {done : List Nat} (ty : TypeId) (h : IterIs enc w r b m done) (hd : done.length = m.length) :
    (Instr.next (.pointer (some ⟨r, 0, none⟩)) false ty).run P w = .ok (.tuple #[.bool false]) w := by
  obtain ⟨hrb, hnd, hlt, es, cl, seen, c0, hb, hs, he, hr, hc, hc0, hseen⟩ := h
  have hall : ∀ i, i < m.length → i ∈ done := by
    intro i hi
    rcases Classical.em (i ∈ done) with h | h
    · exact h
    · have := List.Nodup.length_le_of_subset (List.nodup_cons.2 ⟨h, hnd⟩) (l₂ := List.range m.length) (fun j hj => by
        rcases List.mem_cons.1 hj with rfl | hj
        · simpa using hi
        · simpa using hlt j hj)
      simp at this
      omega
  have hlen : es.size = m.length := by have := congrArg List.length he; simpa using this
  have hold : ∀ x ∈ es.toList, x.born < cl := hs.1
  have hleft : es.filter (fun e => !seen.contains e.born) = #[] := by
    rw [Array.filter_eq_empty_iff]
    intro x hx
    obtain ⟨i, hi, rfl⟩ := Array.mem_iff_getElem.1 hx
    have : es[i].born ∈ seen.toList := by
      rw [hseen]
      exact List.mem_map.2 ⟨i, hall i (by omega), by simp [hi]⟩
    simpa using this
  simp only [Instr.next, getObj, Sem.run_bind, Sem.run, hr, hb, Result.andThen, next_test_false seen es cl c0 hold hc, Bool.false_eq_true, if_false, hleft]
  simp [choose, Sem.run, Question.forced]

theorem next_some {w : World} {r b : Nat} {m : List (κ × Value)} {done : List Nat} (ty : TypeId) (h : IterIs enc w r b m done) (hd : done.length < m.length) :
    ∃ i p w', m[i]? = some p ∧ i ∉ done ∧ (Instr.next (.pointer (some ⟨r, 0, none⟩)) false ty).run P w = .ok (.tuple #[.bool true, enc p.1, p.2]) w' ∧
      IterIs enc w' r b m (done ++ [i]) ∧ Kept [r] w w' ∧ w'.heap.size = w.heap.size := by
  obtain ⟨hrb, hnd, hlt, es, cl, seen, c0, hb, hs, he, hr, hc, hc0, hseen⟩ := h
  have hlen : es.size = m.length := by have := congrArg List.length he; simpa using this
  have hold : ∀ x ∈ es.toList, x.born < cl := hs.1
  obtain ⟨L, hL⟩ : ∃ L, L = es.filter (fun e => !seen.contains e.born) := ⟨_, rfl⟩
  have hmem : ∀ x ∈ L, x ∈ es ∧ x.born ∉ seen.toList := fun x hx => by
    rw [hL] at hx
    have := Array.mem_filter.1 hx
    exact ⟨this.1, by simpa using this.2⟩
  have e1 : L.filter (fun x => decide (x.born < cl)) = L := Array.filter_eq_self.2 (fun x hx => by simpa using hold x (by simpa using (hmem x hx).1))
  have e2 : L.filter (fun x => decide (x.born ≥ cl)) = #[] := by
    rw [Array.filter_eq_empty_iff]
    intro x hx
    have := hold x (by simpa using (hmem x hx).1)
    simp
    omega
  have hbn := hs.2.1
  have hidx : ∀ i j : Nat, ∀ (hi : i < es.size) (hj : j < es.size), es[i].born = es[j].born → i = j := by
    intro i j hi hj hij
    have hn := List.pairwise_iff_getElem.1 hbn
    rcases Nat.lt_trichotomy i j with h1 | h1 | h1
    · exact absurd (by rw [List.getElem_map, List.getElem_map]; exact hij) (hn i j (by simpa using hi) (by simpa using hj) h1)
    · exact h1
    · exact absurd (by rw [List.getElem_map, List.getElem_map]; exact hij.symm) (hn j i (by simpa using hj) (by simpa using hi) h1)
  have hne : L.size ≠ 0 := by
    intro h0
    have hL0 : L = #[] := Array.eq_empty_of_size_eq_zero h0
    have hall : ∀ i, i < m.length → i ∈ done := by
      intro i hi
      have hi' : i < es.size := by omega
      have : es[i] ∉ es.filter (fun e => !seen.contains e.born) := by rw [← hL, hL0]; simp
      have hin : es[i].born ∈ seen.toList := by
        by_cases hc : es[i].born ∈ seen.toList
        · exact hc
        · exact absurd (Array.mem_filter.2 ⟨Array.getElem_mem hi', by simpa using hc⟩) this
      rw [hseen] at hin
      obtain ⟨j, hj, hje⟩ := List.mem_map.1 hin
      have hjl : j < es.size := by have := hlt j hj; omega
      simp [hjl] at hje
      exact (hidx j i hjl hi' hje) ▸ hj
    have := List.Nodup.length_le_of_subset (List.nodup_range (n := m.length)) (l₂ := done) (fun i hi => hall i (by simpa using hi))
    simp at this
    omega
  have hne' : L.isEmpty = false := by simp [Array.isEmpty, hne]
  -- what the tape says
  have hch : ∃ (j : Nat) (w1 : World), j < L.size ∧ (w1.heap = w.heap ∧ w1.os = w.os ∧ w1.tape = w.tape ∧ w1.output = w.output) ∧ (choose (Question.mapNext L.size)).run P w = .ok j w1 := by
    by_cases hf : L.size ≤ 1
    · exact ⟨0, w, by omega, ⟨rfl, rfl, rfl, rfl⟩, by simp [choose, Sem.run, Question.forced, hf]⟩
    · exact ⟨_, w.drew, Nat.mod_lt _ (by omega), ⟨rfl, rfl, rfl, rfl⟩, by
        simp only [choose, Sem.run, Question.forced, decide_eq_true_eq, hf, if_false, Question.cut]
        rfl⟩
  obtain ⟨j, w1, hj, ⟨g1, g2, g3, g4⟩, hrun⟩ := hch
  obtain ⟨hm1, hm2⟩ := hmem L[j] (Array.getElem_mem hj)
  obtain ⟨i, hi, hie⟩ := Array.mem_iff_getElem.1 hm1
  have hmi : ∃ p, m[i]? = some p ∧ enc p.1 = L[j].key ∧ p.2 = L[j].val := by
    have hx : (es.toList.map (fun e => (e.key, e.val)))[i]? = some (L[j].key, L[j].val) := by simp [hi, hie]
    rw [he, List.getElem?_map] at hx
    cases hp : m[i]? with
    | none => rw [hp] at hx; cases hx
    | some p =>
      rw [hp] at hx
      have hx' : (enc p.1, p.2) = (L[j].key, L[j].val) := by simpa using hx
      exact ⟨p, rfl, congrArg Prod.fst hx', congrArg Prod.snd hx'⟩
  obtain ⟨p, hp, hk, hv⟩ := hmi
  have hnot : i ∉ done := by
    intro hd2
    apply hm2
    rw [hseen]
    exact List.mem_map.2 ⟨i, hd2, by simp [hi, hie]⟩
  have hrr : w1.heap[r]? = some (.mapIter (some b) cl seen c0) := by rw [g1, hr]
  have hset : (setObj r (.mapIter (some b) cl (seen.push L[j].born) cl)).run P w1 = .ok () { w1 with heap := w1.heap.setIfInBounds r (.mapIter (some b) cl (seen.push L[j].born) cl) } := by
    simp only [setObj, Sem.run, hrr]
  refine ⟨i, p, { w1 with heap := w1.heap.setIfInBounds r (.mapIter (some b) cl (seen.push L[j].born) cl) }, hp, hnot, ?_, ?_, ?_, by simp [g1]⟩
  · simp only [Instr.next, getObj, Sem.run_bind, Sem.run, hr, hb, Result.andThen, next_test_false seen es cl c0 hold hc, Bool.false_eq_true, if_false, ← hL, e1, e2, Array.append_empty, hne', Array.empty_append, Array.size_map, hrun, Array.getElem?_map, Array.getElem?_eq_getElem hj, Option.map_some, hset]
    simp [hk, hv, pure]
  · have hrl : r < w.heap.size := (Array.getElem?_eq_some_iff.1 hr).1
    refine ⟨hrb, ?_, ?_, es, cl, seen.push L[j].born, cl, ?_, hs, he, ?_, Nat.le_refl _, fun _ => rfl, ?_⟩
    · rw [List.nodup_append]
      exact ⟨hnd, by simp, fun x hx y hy => by simp at hy; subst hy; exact fun e => hnot (e ▸ hx)⟩
    · intro x hx
      rcases List.mem_append.1 hx with hx | hx
      · exact hlt x hx
      · simp at hx
        subst hx
        exact (List.getElem?_eq_some_iff.1 hp).1
    · simp [g1, hrb, hb]
    · simp [g1, hrl]
    · simp [hseen, hi, hie]
  · refine ⟨g2, g3, g4, by simp [g1], fun k hk hn => ?_⟩
    have hkr : k ≠ r := by simpa using hn
    simp [g1, Ne.symm hkr]

theorem run_entry_iter {w : World} {r b : Nat} {m : List (κ × Value)} {done : List Nat} {i : Nat} {p : κ × Value} (h : IterIs enc w r b m (done ++ [i])) (hp : m[i]? = some p) :
    (Instr.entry (.pointer (some ⟨r, 0, none⟩))).run P w = .ok (.tuple #[enc p.1, p.2]) w := by
  obtain ⟨hrb, hnd, hlt, es, cl, seen, c0, hb, hs, he, hr, hc, hc0, hseen⟩ := h
  obtain rfl : c0 = cl := hc0 (by simp)
  have hlen : es.size = m.length := by have := congrArg List.length he; simpa using this
  have hi : i < es.size := by have := (List.getElem?_eq_some_iff.1 hp).1; omega
  have hback : seen.back? = some es[i].born := by
    have : seen.toList.getLast? = some es[i].born := by rw [hseen]; simp [hi]
    simpa [Array.getLast?_toList] using this
  have hf : es.find? (·.born == es[i].born) = some es[i] := by rw [← Array.find?_toList]; exact find_born es[i] es.toList hs.2.1 (by simp)
  have hx : (es.toList.map (fun e => (e.key, e.val)))[i]? = some (enc p.1, p.2) := by rw [he, List.getElem?_map, hp]; rfl
  simp [hi] at hx
  simp only [Instr.entry, getObj, Sem.run_bind, Sem.run, hr, hb, Result.andThen, hback, bne_self_eq_false, Bool.false_eq_true, if_false, hf]
  simp [hx.1, hx.2, pure]
end

section
variable {κ : Type} {enc : κ → Value} {w : World} {P : Program} {ops : Array Oper} {rest : List Oper} {o : Oper} {a : Act} {Q : Exit → Act → World → Prop}
theorem wl_range (hg : o.guard = none) (x : Operand) (t : TypeId) (hop : o.op = Op.range t x) (kt et : TypeId) (ht : P.underlying t = some (.map kt et))
    (b : Nat) (m : List (κ × Value)) (hx : a.eval x = .map (some b)) (hM : MapIs enc w b m)
    (hK : ∀ w', IterIs enc w' w.heap.size b m [] → Kept [] w w' → w'.heap.size = w.heap.size + 1 → wpList P ops Q rest (a.put o.dst (.pointer (some ⟨w.heap.size, 0, none⟩))) w') : wpList P ops Q (o :: rest) a w := by
  obtain ⟨w', hrun, h1, h2, h3⟩ := run_range_iter (P := P) w t kt et b m ht hM
  refine wpList_plain hg fun K' hK' => ?_
  unfold Oper.wp
  simp [execOp, hop, hx, hrun, Result.andThen]
  exact hK' _ _ (hK w' h1 h2 h3)
theorem wl_next (hg : o.guard = none) (x : Operand) (hop : o.op = Op.next x false) (r b : Nat) (m : List (κ × Value)) (done : List Nat) (hx : a.eval x = .pointer (some ⟨r, 0, none⟩)) (hI : IterIs enc w r b m done)
    (h0 : done.length = m.length → wpList P ops Q rest (a.put o.dst (.tuple #[.bool false])) w)
    (h1 : ∀ i p w', m[i]? = some p → i ∉ done → IterIs enc w' r b m (done ++ [i]) → Kept [r] w w' → w'.heap.size = w.heap.size → wpList P ops Q rest (a.put o.dst (.tuple #[.bool true, enc p.1, p.2])) w') : wpList P ops Q (o :: rest) a w := by
  refine wpList_plain hg fun K' hK' => ?_
  unfold Oper.wp
  rcases Nat.lt_or_ge done.length m.length with hlt | hge
  · obtain ⟨i, p, w', hp, hn, hrun, g1, g2, g3⟩ := next_some (P := P) o.type hI hlt
    simp [execOp, hop, hx, hrun, Result.andThen]
    exact hK' _ _ (h1 i p w' hp hn g1 g2 g3)
  · have he : done.length = m.length := Nat.le_antisymm hI.left hge
    simp [execOp, hop, hx, next_none (P := P) o.type hI he, Result.andThen]
    exact hK' _ _ (h0 he)
theorem wl_entry (hg : o.guard = none) (x : Operand) (hop : o.op = Op.entry x) (r b : Nat) (m : List (κ × Value)) (done : List Nat) (i : Nat) (p : κ × Value) (hx : a.eval x = .pointer (some ⟨r, 0, none⟩)) (hI : IterIs enc w r b m (done ++ [i])) (hp : m[i]? = some p)
    (hK : wpList P ops Q rest (a.put o.dst (.tuple #[enc p.1, p.2])) w) : wpList P ops Q (o :: rest) a w := by
  refine wpList_plain hg fun K' hK' => ?_
  unfold Oper.wp
  simp [execOp, hop, hx, run_entry_iter (P := P) hI hp, Result.andThen]
  exact hK' _ _ hK
end
end Go.Proofs.YtghgffhcdnmpnaaGreat
