/-
  Base words of this seat's proofs, with no program in sight: what a call leaves of the memory that was there ('Kept'), a map's block as a list of keys and values ('MapIs'), an iterator over it ('IterIs'), and the laws of the operations on maps in the form that a walk takes. Conditions: none beyond each lemma's own.
-/
import Derived.WalkKit
import Derived.Maps.Own
import Derived.Laws.IdiomRangeMap
import Derived.Maps.RangeWalk
import Derived.Maps.OwnOps
import Derived.Maps.OwnSet
import Derived.Lib.Hide
import Derived.Deep.Draws
import Derived.Sort.EncStr
import Derived.Maps.AppendAt
import Derived.Laws.Rows
import Derived.Laws.Tables
import Derived.StillTail
namespace Go.Proofs.YtmpjikihnmagoaaGreatDoor
open Go.RowKit Go.MapKept
theorem lh {p : Prop} (h : p) : Hid p:=Lib.hid h
/-! ### 1. What a call leaves -/
/-- All blocks of w but those listed are as they were. -/
structure Kept (S : List Nat) (w w' : World) : Prop where
 os : w'.os = w.os
 tape : w'.tape = w.tape
 output : w'.output = w.output
 size : w.heap.size ≤ w'.heap.size
 block : ∀ k, k < w.heap.size → k ∉ S → w'.heap[k]? = w.heap[k]?
theorem Kept.refl (S : List Nat) (w : World) : Kept S w w:=⟨rfl, rfl, rfl, Nat.le_refl _, fun _ _ _ => rfl⟩
theorem Kept.trans {S T : List Nat} {a b c : World} (h : Kept S a b) (k : Kept T b c) (hT : ∀ x, x ∈ T → x ∈ S ∨ a.heap.size ≤ x) : Kept S a c :=
 ⟨k.os.trans h.os, k.tape.trans h.tape, k.output.trans h.output, Nat.le_trans h.size k.size, fun i hi hS =>
  (k.block i (Nat.lt_of_lt_of_le hi h.size) (fun hm => (hT i hm).elim hS (fun hh => by omega))).trans (h.block i hi hS)⟩
theorem Kept.trans0 {S : List Nat} {a b c : World} (h : Kept S a b) (k : Kept [] b c) : Kept S a c:=h.trans k (fun _ hx => by cases hx)
theorem Kept.mono {S T : List Nat} {a b : World} (h : Kept S a b) (hT : ∀ x, x ∈ S → x ∈ T) : Kept T a b :=
 ⟨h.os, h.tape, h.output, h.size, fun k hk hn => h.block k hk (fun hm => hn (hT k hm))⟩
theorem Kept.of_below {w w' : World} (h : Below w.heap.size w w') : Kept [] w w':=⟨h.os, h.tape, h.output, h.size, fun k hk _ => h.block k hk⟩
theorem Kept.below {w w' : World} (h : Kept [] w w') : Below w.heap.size w w':=⟨h.os, h.tape, h.output, h.size, fun k hk => h.block k hk (by simp)⟩
theorem Kept.of_grown {w w' : World} {row : Option Nat} (h : w.grownBy w' row) : Kept row.toList w w' :=
 ⟨h.os, h.tape, h.output, h.size, fun k hk hn => h.block k hk (fun e => hn (by cases row <;> simp_all))⟩
theorem Kept.alloc {S : List Nat} {a w : World} (h : Kept S a w) (o : Obj) : Kept S a (w.alloc o) :=
 h.trans (T:=[]) ⟨rfl, rfl, rfl, by simp, fun k hk _ => Below.heap_alloc _ _ _ hk⟩ (fun _ hx => by cases hx)
theorem Kept.drew {S : List Nat} {a w : World} (h : Kept S a w) : Kept S a w.drew:=⟨h.os, h.tape, h.output, h.size, h.block⟩
theorem Kept.drewN {S : List Nat} {a w : World} (h : Kept S a w) (n : Nat) : Kept S a (w.drewN n):=⟨h.os, h.tape, h.output, h.size, h.block⟩
theorem Kept.setCell {S : List Nat} {a w : World} (h : Kept S a w) {p : Addr} (hp : p.block ∈ S ∨ a.heap.size ≤ p.block) (u : Value) : Kept S a (w.setCell p u) :=
 h.trans (T:=[p.block]) ⟨rfl, rfl, rfl, by simp [World.setCell], fun k _ hn => Below.heap_setCell _ _ _ _ (by simpa using hn)⟩ (fun x hx => by simp at hx; subst hx; exact hp)
theorem Kept.cell {S : List Nat} {w w' : World} (h : Kept S w w') {p : Addr} {v : Value} (hc : w.cell? p = some v) (hp : p.block ∉ S) : w'.cell? p = some v :=
 (World.cell?_of_block (h.block p.block (World.block_lt_of_cell? w p hc) hp)).trans hc
theorem Kept.frozen {S : List Nat} {w w' : World} (h : Kept S w w') {p : Addr} (hl : p.block < w.heap.size) (hp : p.block ∉ S) : w'.frozen? p = w.frozen? p :=
 World.frozen?_of_block (h.block p.block hl hp)
theorem Kept.heap {S : List Nat} {w w' : World} (h : Kept S w w') {b : Nat} {o : Obj} (hb : w.heap[b]? = some o) (hS : b ∉ S) : w'.heap[b]? = some o :=
 (h.block b (Array.getElem?_eq_some_iff.1 hb).1 hS).trans hb
theorem Kept.own {S : List Nat} {w w' : World} (h : Kept S w w') {base : Nat} {e : TypeId} {size n : Nat} {v : Value} {xs : List Value} (ho : w.ownsRow base e size v n xs) (hS : ∀ b, v.ownBlock = some b → b ∉ S) : w'.ownsRow base e size v n xs:=by
 refine ⟨ho.1, ?_⟩
 rcases ho.2 with hn | ⟨g, cap, cur, rfl, hb, hgg, rest⟩
 ·exact .inl hn
 ·exact .inr ⟨g, cap, cur, rfl, hb, h.heap hgg (hS g rfl), rest⟩
/-! ### 2. A map's block -/
/-- The entries of a block are these keys and values, in this order. -/
def MapIs {κ : Type} (enc : κ → Value) (w : World) (b : Nat) (m : List (κ × Value)) : Prop :=
 ∃ es clock, w.heap[b]? = some (.map es clock) ∧ Stamped es clock ∧ es.toList.map (fun e => (e.key, e.val)) = m.map (fun p => (enc p.1, p.2))
section
variable {κ : Type} {enc : κ → Value} {w : World} {b : Nat} {m : List (κ × Value)}
theorem MapIs.lt (h : MapIs enc w b m) : b < w.heap.size:=by
 obtain ⟨es, cl, hb, _⟩:=h
 exact (Array.getElem?_eq_some_iff.1 hb).1
theorem MapIs.kept {S : List Nat} {w' : World} (h : MapIs enc w b m) (k : Kept S w w') (hS : b ∉ S) : MapIs enc w' b m:=by
 obtain ⟨es, cl, hb, r⟩:=h
 exact ⟨es, cl, k.heap hb hS, r⟩
theorem MapIs.alloc (h : MapIs enc w b m) (o : Obj) : MapIs enc (w.alloc o) b m:=h.kept (S:=[]) ((Kept.refl _ _).alloc o) (by simp)
theorem MapIs.drew (h : MapIs enc w b m) : MapIs enc w.drew b m:=h
theorem MapIs.drewN (h : MapIs enc w b m) (n : Nat) : MapIs enc (w.drewN n) b m:=h
theorem MapIs.keys {es : Array MapEntry} (he : es.toList.map (fun e => (e.key, e.val)) = m.map (fun p => (enc p.1, p.2))) : es.toList.map (·.key) = (m.map Prod.fst).map enc:=by
 have:=congrArg (List.map Prod.fst) he
 simpa [List.map_map, Function.comp_def] using this
theorem nodup_of_map {α β : Type} (f : α → β) : ∀ {l : List α}, (l.map f).Nodup → l.Nodup
 | [], _ => List.nodup_nil
 | x :: l, h => by
  have h':=List.nodup_cons.1 (show (f x :: l.map f).Nodup from h)
  exact List.nodup_cons.2 ⟨fun hm => h'.1 (List.mem_map.2 ⟨x, hm, rfl⟩), nodup_of_map f h'.2⟩
/-- No key stands twice. -/
theorem MapIs.nodup (h : MapIs enc w b m) : (m.map Prod.fst).Nodup:=by
 obtain ⟨es, cl, hb, hs, he⟩:=h
 have h3:=hs.2.2
 rw [MapIs.keys he] at h3
 exact nodup_of_map enc h3
end
section
variable {κ : Type} [DecidableEq κ] {enc : κ → Value}
variable {P : Program} {kt : TypeId} {m : List (κ × Value)} {w : World} {b : Nat}
end
/-! ### 3. The laws at the operations -/
section
variable {κ : Type} [DecidableEq κ] {enc : κ → Value} {w : World} {P : Program} {kt : TypeId} {ops : Array Oper} {rest : List Oper} {o : Oper} {a : Act} {Q : Exit → Act → World → Prop}
end
/-! ### 4. An iterator -/
/-- Block r is an iterator over block b, whose entries at the places 'done' it has handed out. -/
def IterIs {κ : Type} (enc : κ → Value) (w : World) (r b : Nat) (m : List (κ × Value)) (done : List Nat) : Prop :=
 r ≠ b ∧ done.Nodup ∧ (∀ i ∈ done, i < m.length) ∧ ∃ es clock seen c0, w.heap[b]? = some (.map es clock) ∧ Stamped es clock ∧ es.toList.map (fun e => (e.key, e.val)) = m.map (fun p => (enc p.1, p.2)) ∧
  w.heap[r]? = some (.mapIter (some b) clock seen c0) ∧ clock ≤ c0 ∧ (done ≠ [] → c0 = clock) ∧ seen.toList = done.map (fun i => (es[i]?.map (·.born)).getD 0)
section
variable {κ : Type} {enc : κ → Value} {w : World} {r b : Nat} {m : List (κ × Value)} {done : List Nat}
theorem IterIs.map (h : IterIs enc w r b m done) : MapIs enc w b m:=by
 obtain ⟨_, _, _, es, cl, seen, c0, hb, hs, he, _⟩:=h
 exact ⟨es, cl, hb, hs, he⟩
theorem IterIs.lt (h : IterIs enc w r b m done) : r < w.heap.size:=by
 obtain ⟨_, _, _, es, cl, seen, c0, hb, hs, he, hr, _⟩:=h
 exact (Array.getElem?_eq_some_iff.1 hr).1
theorem IterIs.kept {S : List Nat} {w' : World} (h : IterIs enc w r b m done) (k : Kept S w w') (hb : b ∉ S) (hr : r ∉ S) : IterIs enc w' r b m done:=by
 obtain ⟨h1, h2, h3, es, cl, seen, c0, hb', hs, he, hr', rest⟩:=h
 exact ⟨h1, h2, h3, es, cl, seen, c0, k.heap hb' hb, hs, he, k.heap hr' hr, rest⟩
theorem IterIs.left (h : IterIs enc w r b m done) : done.length ≤ m.length:=by
 have:=List.Nodup.length_le_of_subset h.2.1 (l₂:=List.range m.length) (fun i hi => by simpa using h.2.2.1 i hi)
 simpa using this
end
section
variable {κ : Type} {enc : κ → Value} {P : Program}
end
section
variable {κ : Type} {enc : κ → Value} {w : World} {P : Program} {ops : Array Oper} {rest : List Oper} {o : Oper} {a : Act} {Q : Exit → Act → World → Prop}
end
end Go.Proofs.YtmpjikihnmagoaaGreatDoor
/-
 Base words of this seat's proofs: slices that are read, maps keyed by strings. Conditions: none beyond each lemma's own.
-/
namespace Go.Proofs.YtmpjikihnmagoaaGreatDoor
open Go.RowKit Go.MapKept
/-- The n elements, of s cells each, that a slice at A holds: the cells xs. -/
def SlIs (w : World) (s : Nat) (A : Option Addr) (n : Nat) (xs : List Value) : Prop :=
 xs.length = n * s ∧ n ≤ 9223372036854775807 ∧ (0 < n → ∃ b off, A = some ⟨b, off, none⟩ ∧ ∀ i v, xs[i]? = some v → w.cell? ⟨b, off + i, none⟩ = some v)
theorem SlIs.kept {S : List Nat} {w w' : World} {s : Nat} {A : Option Addr} {n : Nat} {xs : List Value} (h : SlIs w s A n xs) (k : Kept S w w') (hS : ∀ a, A = some a → a.block ∉ S) : SlIs w' s A n xs:=by
 refine ⟨h.1, h.2.1, fun hn => ?_⟩
 obtain ⟨b, off, hA, hc⟩:=h.2.2 hn
 exact ⟨b, off, hA, fun i v hv => k.cell (hc i v hv) (hS ⟨b, off, none⟩ hA)⟩
theorem SlIs.kept0 {w w' : World} {s : Nat} {A : Option Addr} {n : Nat} {xs : List Value} (h : SlIs w s A n xs) (k : Kept [] w w') : SlIs w' s A n xs:=h.kept k (fun _ _ => by simp)
theorem SlIs.nil (w : World) (s : Nat) (A : Option Addr) : SlIs w s A 0 []:=⟨by simp, by omega, fun h => absurd h (by omega)⟩
/-- A slice of the call's own reads as what it owns. -/
theorem own_sl {w : World} {base : Nat} {e : TypeId} {s n : Nat} {v : Value} {xs : List Value} (h : w.ownsRow base e s v n xs) : ∃ A c, v = .slice A n c ∧ SlIs w s A n xs ∧ (∀ a, A = some a → base ≤ a.block ∧ a.block < w.heap.size):=by
 rcases h.2 with ⟨rfl, rfl⟩ | ⟨g, cap, cur, rfl, hb, hg, hnc, hcm, hcs, htake⟩
 ·exact ⟨none, 0, rfl, ⟨h.1, by omega, fun h => absurd h (by omega)⟩, by simp⟩
 ·refine ⟨_, cap, rfl, ⟨h.1, by simp only [maxLen] at hcm; omega, fun _ => ⟨g, 0, rfl, fun i u hu => ?_⟩⟩, fun a ha => ?_⟩
  ·have:=h.cells (g:=g) rfl i u hu
   have hadd : (⟨g, 0, none⟩ : Addr).add i = ⟨g, 0 + i, none⟩:=by unfold Addr.add; split <;> simp_all
   rwa [hadd] at this
  ·cases ha
   exact ⟨hb, (Array.getElem?_eq_some_iff.1 hg).1⟩
/-! ### Whole structs -/
section
variable {P : Program} {ops : Array Oper} {rest : List Oper} {o : Oper} {a : Act} {w : World} {Q : Exit → Act → World → Prop}
theorem Kept.setRow {S : List Nat} {w0 w : World} (h : Kept S w0 w) {g : Nat} (hg : g ∈ S ∨ w0.heap.size ≤ g) (cs : Array Value) : Kept S w0 (w.setRow g cs) :=
 h.trans (T:=[g]) ⟨rfl, rfl, rfl, by simp, fun k _ hn => setRow_other w g k cs (by simpa using hn)⟩ (fun x hx => by simp at hx; subst hx; exact hg)
/-- A struct read out of a row, at whatever place. -/
theorem run_load_struct {ty : TypeId} {d : TypeDesc} (hu : P.underlying ty = some d) (hd : (match d with | .struct _ | .array _ _ => true | _ => false) = true) {n : Nat} (hi : (P.info? ty).map (·.size) = some n)
  (b off : Nat) (cs : List Value) (hl : cs.length = n) (hc : ∀ j v, cs[j]? = some v → w.cell? ⟨b, off + j, none⟩ = some v) : (loadVar ty ⟨b, off, none⟩).run P w = .ok (.agg cs.toArray) w:=by
 have hl' : (loadCells ⟨b, off, none⟩ cs.length).run P w = .ok cs.toArray w :=
  run_loadCells_list (P:=P) w ⟨b, off, none⟩ cs (fun j v hv => by
   have hadd : (⟨b, off, none⟩ : Addr).add j = ⟨b, off + j, none⟩:=by unfold Addr.add; split <;> simp_all
   rw [hadd]
   exact hc j v hv)
 cases hq : P.info? ty with
 | none => simp [hq] at hi
 | some i =>
  have hs : i.size = n:=by simpa [hq] using hi
  have hagg : (isAgg ty).run P w = .ok true w:=by
   unfold isAgg
   rw [Sem.run_bind, run_underlying hu w]
   cases d <;> simp_all
  rw [hl] at hl'
  simp [loadVar, Sem.run_bind, hagg, sizeOf, typeInfo, hq, hs, hl']
theorem ow_load_struct {K : Act → World → Prop} (ty : TypeId) (x : Operand) (ho : o.op = .load ty x) {d : TypeDesc} (hu : P.underlying ty = some d) (hd : (match d with | .struct _ | .array _ _ => true | _ => false) = true) {n : Nat} (hi : (P.info? ty).map (·.size) = some n)
  (b off : Nat) (hx : a.eval x = .pointer (some ⟨b, off, none⟩)) (cs : List Value) (hl : cs.length = n) (hc : ∀ j v, cs[j]? = some v → w.cell? ⟨b, off + j, none⟩ = some v)
  (h : K (a.put o.dst (.agg cs.toArray)) w) : o.wp P a w K Q:=by
 unfold Oper.wp execOp
 simp only [ho, hx, Instr.loadAt, Instr.sureAddr, Sem.run_bind, Sem.run_pure, Result.andThen_ok, run_load_struct hu hd hi b off cs hl hc]
 exact h
theorem wl_load_struct (hgd : o.guard = none) (ty : TypeId) (x : Operand) (ho : o.op = .load ty x) {d : TypeDesc} (hu : P.underlying ty = some d) (hd : (match d with | .struct _ | .array _ _ => true | _ => false) = true) {n : Nat} (hi : (P.info? ty).map (·.size) = some n)
  (b off : Nat) (hx : a.eval x = .pointer (some ⟨b, off, none⟩)) (cs : List Value) (hl : cs.length = n) (hc : ∀ j v, cs[j]? = some v → w.cell? ⟨b, off + j, none⟩ = some v)
  (h : wpList P ops Q rest (a.put o.dst (.agg cs.toArray)) w) : wpList P ops Q (o :: rest) a w :=
 wpList_plain hgd fun _ hK => ow_load_struct ty x ho hu hd hi b off hx cs hl hc (hK _ _ h)
/-- A struct laid into a block of its own. -/
theorem run_store_struct {ty : TypeId} {cs : Array Value} (hi : (P.info? ty).map (·.size) = some cs.size) (g : Nat) (T : TypeId) (old : Array Value) (hg : w.heap[g]? = some (.cells old T (0, 0))) (hos : old.size = cs.size) (h1 : cs.all (·.oneCell') = true) :
  (storeVar ty ⟨g, 0, none⟩ (.agg cs)).run P w = .ok () (w.setRow g cs):=by
 cases hq : P.info? ty with
 | none => simp [hq] at hi
 | some i =>
  have hs : i.size = cs.size:=by simpa [hq] using hi
  have hst:=run_storeCells_from (P:=P) g T cs.toList 0 old w hg (by simp [hos]) (fun v hv => by
   have:=Array.all_eq_true'.1 h1 v (by simpa using hv)
   exact this)
  simp only [List.take_zero, List.nil_append, Array.toArray_toList] at hst
  simp [storeVar, Sem.run_bind, sizeOf, typeInfo, hq, hs, Value.cells, hst]
theorem ow_store_struct {K : Act → World → Prop} (ty : TypeId) (x y : Operand) (ho : o.op = .store ty x y) {cs : Array Value} (hi : (P.info? ty).map (·.size) = some cs.size) (g : Nat) (hx : a.eval x = .pointer (some ⟨g, 0, none⟩)) (hy : a.eval y = .agg cs)
  (T : TypeId) (old : Array Value) (hg : w.heap[g]? = some (.cells old T (0, 0))) (hos : old.size = cs.size) (h1 : cs.all (·.oneCell') = true) (h : K (a.put o.dst undef) (w.setRow g cs)) : o.wp P a w K Q:=by
 unfold Oper.wp execOp
 simp only [ho, hx, hy, Instr.storeAt, Instr.sureAddr, Sem.run_bind, Sem.run_pure, Result.andThen_ok, run_store_struct hi g T old hg hos h1]
 exact h
theorem wl_store_struct (hgd : o.guard = none) (ty : TypeId) (x y : Operand) (ho : o.op = .store ty x y) {cs : Array Value} (hi : (P.info? ty).map (·.size) = some cs.size) (g : Nat) (hx : a.eval x = .pointer (some ⟨g, 0, none⟩)) (hy : a.eval y = .agg cs)
  (T : TypeId) (old : Array Value) (hg : w.heap[g]? = some (.cells old T (0, 0))) (hos : old.size = cs.size) (h1 : cs.all (·.oneCell') = true) (h : wpList P ops Q rest (a.put o.dst undef) (w.setRow g cs)) : wpList P ops Q (o :: rest) a w :=
 wpList_plain hgd fun _ hK => ow_store_struct ty x y ho hi g hx hy T old hg hos h1 (hK _ _ h)
end
/-! ### append of a slice that is read, onto one of the call's own -/
section
variable {P : Program} {ops : Array Oper} {rest : List Oper} {o : Oper} {a : Act} {w : World} {Q : Exit → Act → World → Prop}
theorem run_append_sl (base : Nat) (t ty e : TypeId) {z : Value} {size bytes : Nat} (ht : P.underlying t = some (.slice e)) (hinfo : (P.info? e).map (fun i => (i.zero, i.size, i.bytes)) = some (some z, size, bytes)) (hzs : z.cells.size = size) (hsz : 0 < size)
  (v : Value) (n : Nat) (xs : List Value) (hown : w.ownsRow base e size v n xs) (A : Option Addr) (m c : Nat) (ys : List Value) (hA : SlIs w size A m ys) (h1 : ∀ u ∈ ys, u.oneCell' = true)
  (h63 : n + m ≤ 9223372036854775807) (hbytes : (n + m) * bytes ≤ 140737488355328) (hbase : base ≤ w.heap.size) :
  ∃ v' w', (Builtin.append_ #[t, t] ty #[v, .slice A m c]).run P w = .ok v' w' ∧ w'.ownsRow base e size v' (n + m) (xs ++ ys) ∧ Kept v.ownBlock.toList w w' ∧ (v'.ownBlock = v.ownBlock ∨ v'.ownBlock = some w.heap.size):=by
 obtain ⟨i, hi, hz0, hz1, hz2⟩:=info_parts hinfo
 rcases A with _ | ad
 ·have hm : m = 0:=by
   rcases Nat.eq_zero_or_pos m with h | h
   ·exact h
   ·obtain ⟨b, off, h, _⟩:=hA.2.2 h
    cases h
  subst hm
  have hy : ys = []:=List.eq_nil_of_length_eq_zero (by simpa using hA.1)
  subst hy
  refine ⟨v, w, ?_, by simpa using hown, Kept.refl _ _, .inl rfl⟩
  rcases hown.2 with ⟨rfl, rfl⟩ | ⟨g, cap, cur, rfl, hbg, hg, hnc, hcm, hcs, htake⟩
  ·simp [Builtin.append_, run_underlying ht, sizeOf, typeInfo, hi, Builtin.lenOf, Builtin.firstCells]
  ·simp [Builtin.append_, run_underlying ht, sizeOf, typeInfo, hi, Builtin.lenOf, Builtin.firstCells, loadCells, hnc, storeCells]
 ·have hnews : ∀ j u, ys[j]? = some u → w.cell? (ad.add j) = some u:=by
   intro j u hu
   have hm : 0 < m:=by
    rcases Nat.eq_zero_or_pos m with h | h
    ·have:=hA.1
     rw [h] at this
     have hy : ys = []:=List.eq_nil_of_length_eq_zero (by simpa using this)
     rw [hy] at hu
     simp at hu
    ·exact h
   obtain ⟨b, off, h, hc⟩:=hA.2.2 hm
   cases h
   have hadd : (⟨b, off, none⟩ : Addr).add j = ⟨b, off + j, none⟩:=by unfold Addr.add; split <;> simp_all
   rw [hadd]
   exact hc j u hu
  obtain ⟨v', w', hr, h2, h3, _, h5⟩:=run_append_own_at (P:=P) w base t ty e i z size bytes ht hi hz0 hz1 hz2 hzs hsz v n xs hown ad m c ys hA.1 hnews h1 (by simp only [maxLen]; omega) hbytes hbase
  exact ⟨v', w', hr, h2, Kept.of_grown h3, h5⟩
theorem ow_append {K : Act → World → Prop} (s x : Operand) (t : TypeId) (ho : o.op = .call { callee:=.builtin .append, args:=#[s, x], argTypes:=#[t, t] })
  (base : Nat) (e : TypeId) {z : Value} {size bytes : Nat} (ht : P.underlying t = some (.slice e)) (hinfo : (P.info? e).map (fun i => (i.zero, i.size, i.bytes)) = some (some z, size, bytes)) (hzs : z.cells.size = size) (hsz : 0 < size)
  (v : Value) (n : Nat) (xs : List Value) (hs : a.eval s = v) (hown : w.ownsRow base e size v n xs) (A : Option Addr) (m c : Nat) (ys : List Value) (hx : a.eval x = .slice A m c) (hA : SlIs w size A m ys) (h1 : ∀ u ∈ ys, u.oneCell' = true)
  (h63 : n + m ≤ 9223372036854775807) (hbytes : (n + m) * bytes ≤ 140737488355328) (hbase : base ≤ w.heap.size)
  (h : ∀ v' w', w'.ownsRow base e size v' (n + m) (xs ++ ys) → Kept v.ownBlock.toList w w' → (v'.ownBlock = v.ownBlock ∨ v'.ownBlock = some w.heap.size) → K (a.put o.dst v') w') : o.wp P a w K Q:=by
 obtain ⟨v', w', hr, h2, h3, h4⟩:=run_append_sl (P:=P) base t o.type e ht hinfo hzs hsz v n xs hown A m c ys hA h1 h63 hbytes hbase
 unfold Oper.wp execOp
 simp only [ho, resolve, invoke, builtin, Sem.run_bind, Sem.run_pure, Result.andThen_ok, List.map_toArray, List.map_cons, List.map_nil, hs, hx, hr]
 exact h v' w' h2 h3 h4
theorem wl_append (hgd : o.guard = none) (s x : Operand) (t : TypeId) (ho : o.op = .call { callee:=.builtin .append, args:=#[s, x], argTypes:=#[t, t] })
  (base : Nat) (e : TypeId) {z : Value} {size bytes : Nat} (ht : P.underlying t = some (.slice e)) (hinfo : (P.info? e).map (fun i => (i.zero, i.size, i.bytes)) = some (some z, size, bytes)) (hzs : z.cells.size = size) (hsz : 0 < size)
  (v : Value) (n : Nat) (xs : List Value) (hs : a.eval s = v) (hown : w.ownsRow base e size v n xs) (A : Option Addr) (m c : Nat) (ys : List Value) (hx : a.eval x = .slice A m c) (hA : SlIs w size A m ys) (h1 : ∀ u ∈ ys, u.oneCell' = true)
  (h63 : n + m ≤ 9223372036854775807) (hbytes : (n + m) * bytes ≤ 140737488355328) (hbase : base ≤ w.heap.size)
  (h : ∀ v' w', w'.ownsRow base e size v' (n + m) (xs ++ ys) → Kept v.ownBlock.toList w w' → (v'.ownBlock = v.ownBlock ∨ v'.ownBlock = some w.heap.size) → wpList P ops Q rest (a.put o.dst v') w') : wpList P ops Q (o :: rest) a w :=
 wpList_plain hgd fun _ hK => ow_append s x t ho base e ht hinfo hzs hsz v n xs hs hown A m c ys hx hA h1 h63 hbytes hbase (fun v' w' a1 a2 a3 => hK _ _ (h v' w' a1 a2 a3))
end
end Go.Proofs.YtmpjikihnmagoaaGreatDoor
/-
 A law for a region that draws its order: each operation of its head yields a value of which a fact is known, whatever the order; its tail runs in the text's order. No program in sight. Conditions: those of the law's premises.
-/
namespace Go.Proofs.YtmpjikihnmagoaaGreatDoor
open Go.RowKit
section
variable {P : Program} {ops : Array Oper} {Q : Exit → Act → World → Prop}
/-- What is known of operation i's value. -/
def dstFact (F : Nat → Value → World → Prop) (i : Nat) (o : Oper) (a : Act) (w : World) : Prop :=
 match o.dst with
 | some d => F i (a.tmps[d]?.getD undef) w
 | none => F i undef w
/-- What is known of the values that an operation waits for. -/
def deps (ops : Array Oper) (F : Nat → Value → World → Prop) (a : Act) (w : World) : List Edge → Prop
 | [] => True
 | e :: r => (Region.binds .any e = true → match ops[e.on]? with | some o => dstFact F e.on o a w | none => True) ∧ deps ops F a w r
def headDsts (ops : Array Oper) (n : Nat) : List Tmp:=(ops.toList.take n).filterMap (·.dst)
/-- The act, but for the head's slots, is the old one. -/
def sameBut (ds : List Tmp) (a0 a : Act) : Prop:=a.defers = a0.defers ∧ a.tmps.size = a0.tmps.size ∧ ∀ t, t ∉ ds → a.tmps[t]? = a0.tmps[t]?
/-- What a step of the head leaves. -/
def StepPost (R : World → World → Prop) (F : Nat → Value → World → Prop) (i : Nat) (o : Oper) (a : Act) (w : World) (a' : Act) (w' : World) : Prop :=
 ∃ v, a' = a.put o.dst v ∧ R w w' ∧ F i v w' ∧ (o.dst = none → F i undef w')
theorem StepPost.mk {R : World → World → Prop} {F : Nat → Value → World → Prop} {i : Nat} {o : Oper} {a : Act} {w w' : World} {v : Value} (h1 : R w w') (h2 : F i v w') (hd : o.dst.isSome = true) : StepPost R F i o a w (a.put o.dst v) w' :=
 ⟨v, rfl, h1, h2, fun h => by rw [h] at hd; cases hd⟩
def stepP (P : Program) (ops : Array Oper) (Q : Exit → Act → World → Prop) (R : World → World → Prop) (F : Nat → Value → World → Prop) (n : Nat) (a0 : Act) (w0 : World) (i : Nat) (o : Oper) : Prop :=
 ∀ a w, R w0 w → sameBut (headDsts ops n) a0 a → deps ops F a w o.after.toList → o.wp P a w (StepPost R F i o a w) Q
def steps (P : Program) (ops : Array Oper) (Q : Exit → Act → World → Prop) (R : World → World → Prop) (F : Nat → Value → World → Prop) (n : Nat) (a0 : Act) (w0 : World) : Nat → List Oper → Prop
 | _, [] => True
 | i, o :: l => stepP P ops Q R F n a0 w0 i o ∧ steps P ops Q R F n a0 w0 (i + 1) l
theorem steps_at {R : World → World → Prop} {F : Nat → Value → World → Prop} {n : Nat} {a0 : Act} {w0 : World} : ∀ (l : List Oper) (k : Nat), steps P ops Q R F n a0 w0 k l → ∀ j o, l[j]? = some o → stepP P ops Q R F n a0 w0 (k + j) o
 | [], _, _, j, o, h => by simp at h
 | x :: l, k, h, 0, o, hj => by
  have : x = o:=by simpa using hj
  subst this
  exact h.1
 | x :: l, k, h, j + 1, o, hj => by
  have:=steps_at l (k + 1) h.2 j o (by simpa using hj)
  rwa [show k + (j + 1) = k + 1 + j by omega]
def facts (F : Nat → Value → World → Prop) (a : Act) (w : World) : Nat → List Oper → Prop
 | _, [] => True
 | i, o :: l => dstFact F i o a w ∧ facts F a w (i + 1) l
theorem facts_of {F : Nat → Value → World → Prop} {a : Act} {w : World} : ∀ (l : List Oper) (k : Nat), (∀ j o, l[j]? = some o → dstFact F (k + j) o a w) → facts F a w k l
 | [], _, _ => trivial
 | x :: l, k, h => ⟨h 0 x rfl, facts_of l (k + 1) (fun j o hj => by have:=h (j + 1) o (by simpa using hj); rwa [show k + (j + 1) = k + 1 + j by omega] at this)⟩
/-- The region's form: no guard, each edge leads back, slots are written once, the tail is forced. -/
def regOk (ops : Array Oper) (n size : Nat) : Bool :=
 decide (n < ops.size) && Region.sinkB .any ops n && Region.chainB .any ops n &&
 (ops.toList.take n).all (fun o => o.guard.isNone) &&
 (List.range n).all (fun i => match ops[i]? with | some o => o.after.toList.all (fun e => !Region.binds .any e || decide (e.on < i)) | none => true) &&
 decide ((headDsts ops n).Nodup) && (headDsts ops n).all (fun d => decide (d < size)) &&
 Region.seqB .any ops (ops.size - n) n ((List.replicate n true ++ List.replicate (ops.size - n) false).toArray)
def left (n : Nat) (listed : Array Bool) : List Nat:=(List.range n).filter (fun i => !listed.getD i true)
theorem left_set {n i : Nat} {listed : Array Bool} (hi : i < n) (hl : listed.getD i true = false) : (left n (listed.setIfInBounds i true)).length + 1 = (left n listed).length:=by
 have hsz : i < listed.size:=by
  rcases Nat.lt_or_ge i listed.size with h | h
  ·exact h
  ·simp [Array.getElem?_eq_none h] at hl
 have h1 : left n (listed.setIfInBounds i true) = (left n listed).filter (fun j => decide (j ≠ i)):=by
  unfold left
  rw [List.filter_filter]
  apply List.filter_congr
  intro j _
  by_cases hj : j = i
  ·subst hj
   simp [hsz]
  ·have : (listed.setIfInBounds i true).getD j true = listed.getD j true:=by
    simp [Array.getElem?_setIfInBounds_ne (Ne.symm hj)]
   rw [this]
   simp [hj]
 have hm : i ∈ left n listed:=List.mem_filter.2 ⟨by simpa using hi, by simpa using hl⟩
 have hn : (left n listed).Nodup:=(List.filter_sublist).nodup List.nodup_range
 rw [h1]
 have : ∀ (l : List Nat), l.Nodup → i ∈ l → (l.filter (fun j => decide (j ≠ i))).length + 1 = l.length:=by
  intro l
  induction l with
  | nil => intro _ h; cases h
  | cons x l ih =>
   intro hnd hm
   have hnd':=List.nodup_cons.1 hnd
   by_cases hx : x = i
   ·subst hx
    simp
    exact fun y hy e => hnd'.1 (e ▸ hy)
   ·have hm' : i ∈ l:=by
     rcases List.mem_cons.1 hm with h | h
     ·exact absurd h.symm hx
     ·exact h
    simp [hx]
    have:=ih hnd'.2 hm'
    simpa using this
 exact this _ hn hm
theorem wpAny_facts {R : World → World → Prop} {F : Nat → Value → World → Prop} {n : Nat} {a0 : Act} {w0 : World} (hRt : ∀ a b c, R a b → R b c → R a c) (hF : ∀ i v w w', F i v w → R w w' → F i v w')
  (hok : regOk ops n a0.tmps.size = true) (hsteps : steps P ops Q R F n a0 w0 0 (ops.toList.take n))
  (hend : ∀ a w, R w0 w → sameBut (headDsts ops n) a0 a → facts F a w 0 (ops.toList.take n) → wpList P ops Q (ops.toList.drop n) a w) :
  ∀ (c : Nat) (listed : Array Bool) (a : Act) (w : World), (left n listed).length = c → HeadInv .any ops n listed → R w0 w → sameBut (headDsts ops n) a0 a →
   (∀ i o, i < n → ops[i]? = some o → listed.getD i true = true → dstFact F i o a w) → wpAny P .any ops Q (c + (ops.size - n)) listed a w:=by
 simp only [regOk, Bool.and_eq_true, decide_eq_true_eq] at hok
 obtain ⟨⟨⟨⟨⟨⟨⟨hn, hsink⟩, hchain⟩, hguard⟩, hback⟩, hnd⟩, hdl⟩, hseq⟩:=hok
 intro c
 induction c with
 | zero =>
  intro listed a w hc inv hR hs hfacts
  have hall : ∀ i, i < n → listed.getD i true = true:=by
   intro i hi
   cases hl : listed.getD i true with
   | true => rfl
   | false =>
    have : i ∈ left n listed:=List.mem_filter.2 ⟨by simpa using hi, by simpa using hl⟩
    have:=List.length_pos_of_mem this
    omega
  have he : listed = (List.replicate n true ++ List.replicate (ops.size - n) false).toArray:=by
   apply Array.ext
   ·simp [inv.size]; omega
   ·intro i h1 h2
    rcases Nat.lt_or_ge i n with hi | hi
    ·have:=hall i hi
     simp [h1] at this
     simp [this, hi]
    ·have:=inv.tail i hi (by rw [← inv.size]; exact h1)
     simp [h1] at this
     simp only [List.getElem_toArray]
     rw [List.getElem_append_right (by simpa using hi)]
     simp [this]
  rw [Nat.zero_add]
  have hd : (ops.toList.drop n).length = ops.size - n:=by simp
  have:=wpAny_of_seq (P:=P) (md:=.any) (ops:=ops) (Q':=Q) (ops.toList.drop n) n listed a w (fun j => by simp [List.getElem?_drop]) (by rw [hd, he]; exact hseq)
   (hend a w hR hs (facts_of _ _ (fun j o hj => by
    have hjn : j < n:=by
     have:=(List.getElem?_eq_some_iff.1 hj).1
     simp at this
     omega
    have hjo : ops[j]? = some o:=by
     rw [List.getElem?_take] at hj
     simpa [hjn] using hj
    simpa using hfacts j o hjn hjo (hall j hjn))))
  rwa [hd] at this
 | succ c ih =>
  intro listed a w hc inv hR hs hfacts
  rw [show c + 1 + (ops.size - n) = (c + (ops.size - n)) + 1 by omega]
  have hex : ∃ i, i ∈ left n listed:=by
   cases h : left n listed with
   | nil => rw [h] at hc; simp at hc
   | cons x l => exact ⟨x, .head _⟩
  -- the least one that is left is ready
  have hready : Region.ready .any ops listed ≠ []:=by
   obtain ⟨i0, hi0⟩:=hex
   have : ∃ i, i ∈ left n listed ∧ ∀ j, j < i → j ∉ left n listed:=by
    induction i0 using Nat.strongRecOn with
    | _ i0 ih0 =>
     rcases Classical.em (∃ j, j < i0 ∧ j ∈ left n listed) with ⟨j, h1, h2⟩ | h
     ·exact ih0 j h1 h2
     ·exact ⟨i0, hi0, fun j hj hm => h ⟨j, hj, hm⟩⟩
   obtain ⟨i, him, hmin⟩:=this
   have h1:=List.mem_filter.1 him
   have hin : i < n:=by simpa using h1.1
   have hlf : listed.getD i true = false:=by simpa using h1.2
   have hio : i < ops.size:=by omega
   have hmem : i ∈ Region.ready .any ops listed:=by
    refine mem_ready.2 ⟨hlf, ops[i], by simp [hio], fun e he hb => ?_⟩
    have hb1:=List.all_eq_true.1 hback i (by simpa using hin)
    simp only [Array.getElem?_eq_getElem hio] at hb1
    have hb2:=List.all_eq_true.1 hb1 e (by simpa using he)
    simp only [hb, Bool.not_true, Bool.false_or, decide_eq_true_eq] at hb2
    have hne:=hmin e.on hb2
    cases hl : listed.getD e.on false with
    | true => rfl
    | false =>
     exact absurd (List.mem_filter.2 ⟨by simp; omega, by
      have:=getD_in (listed:=listed) (i:=e.on) (by rw [inv.size]; omega) hl
      simpa using this⟩) hne
   intro h0
   rw [h0] at hmem
   cases hmem
  refine ⟨fun h0 => absurd h0 hready, fun i hi => ?_⟩
  obtain ⟨i0, hi0⟩:=hex
  have hi0':=List.mem_filter.1 hi0
  have hin : i < n:=by
   rcases Nat.lt_or_ge i n with h | h
   ·exact h
   ·exact absurd hi (tail_waits hsink hchain hn inv (n - i0) i0 rfl (by simpa using hi0'.1) (by simpa using hi0'.2) i h)
  obtain ⟨hlf, oi, hoi, hall⟩:=mem_ready.1 hi
  have hst:=steps_at (ops.toList.take n) 0 hsteps i oi (by rw [List.getElem?_take]; simpa [hin] using hoi)
  rw [Nat.zero_add] at hst
  have hg : oi.guard = none:=by
   have:=List.all_eq_true.1 hguard oi (List.mem_of_getElem? (i:=i) (by rw [List.getElem?_take]; simpa [hin] using hoi))
   simpa using this
  have hdeps : ∀ l : List Edge, (∀ e ∈ l, e ∈ oi.after) → deps ops F a w l:=by
   intro l
   induction l with
   | nil => intro _; trivial
   | cons e l ihl =>
    intro hl
    refine ⟨fun hb => ?_, ihl (fun x hx => hl x (.tail _ hx))⟩
    have hlist:=hall e (hl e (.head _)) hb
    have hb1:=List.all_eq_true.1 hback i (by simpa using hin)
    simp only [hoi] at hb1
    have hb2:=List.all_eq_true.1 hb1 e (by simpa using hl e (.head _))
    simp only [hb, Bool.not_true, Bool.false_or, decide_eq_true_eq] at hb2
    cases hoe : ops[e.on]? with
    | none => trivial
    | some oe =>
     refine hfacts e.on oe (by omega) hoe ?_
     cases h : listed.getD e.on true with
     | true => rfl
     | false => rw [getD_both h] at hlist; cases hlist
  have hrun:=hst a w hR hs (hdeps _ (fun e he => by simpa using he))
  unfold wpOp
  simp only [hoi]
  rw [if_pos (by simp [Region.wanted, hg])]
  refine .inl (Oper.wp_mono ?_ hrun)
  rintro a' w' ⟨v, rfl, hRw, hFv, hFn⟩
  refine ih (listed.setIfInBounds i true) _ w' (by have:=left_set hin hlf; omega) (inv.set hi hin) (hRt _ _ _ hR hRw) ?_ ?_
  ·cases hd : oi.dst with
   | none => exact hs
   | some d =>
    refine ⟨hs.1, by simpa [Act.put] using hs.2.1, fun t ht => ?_⟩
    have hdm : d ∈ headDsts ops n:=List.mem_filterMap.2 ⟨oi, List.mem_of_getElem? (i:=i) (by rw [List.getElem?_take]; simpa [hin] using hoi), hd⟩
    have hne : d ≠ t:=fun e => ht (e ▸ hdm)
    simp only [Act.put, Array.getElem?_setIfInBounds_ne hne]
    exact hs.2.2 t ht
  ·intro j o hjn hjo hlj
   by_cases hij : j = i
   ·subst hij
    obtain rfl : oi = o:=Option.some.inj (hoi.symm.trans hjo)
    unfold dstFact
    cases hd : oi.dst with
    | none => exact hFn hd
    | some d =>
     have hdm : d ∈ headDsts ops n:=List.mem_filterMap.2 ⟨oi, List.mem_of_getElem? (i:=j) (by rw [List.getElem?_take]; simpa [hin] using hoi), hd⟩
     have hdlt : d < a.tmps.size:=by
      have:=List.all_eq_true.1 hdl d hdm
      rw [hs.2.1]
      simpa using this
     simp [Act.put, hdlt, hFv]
   ·have hlj' : listed.getD j true = true:=by
     simpa [Array.getElem?_setIfInBounds_ne (Ne.symm hij)] using hlj
    have h0:=hfacts j o hjn hjo hlj'
    unfold dstFact at h0 ⊢
    cases hdj : o.dst with
    | none => rw [hdj] at h0; exact hF _ _ _ _ h0 hRw
    | some dj =>
     rw [hdj] at h0
     have heq : (a.put oi.dst v).tmps[dj]? = a.tmps[dj]?:=by
      cases hd : oi.dst with
      | none => rfl
      | some d =>
       have hne : d ≠ dj:=by
        intro e
        subst e
        -- two operations of the head that write one slot
        have hh : ∀ (l : List Oper) (p q : Nat) (x y : Oper), p < q → l[p]? = some x → l[q]? = some y → x.dst = some d → y.dst = some d → ¬ (l.filterMap (·.dst)).Nodup:=by
         intro l
         induction l with
         | nil => intro p q x y _ h; simp at h
         | cons z l ihl =>
          intro p q x y hpq h1 h2 h3 h4 hnod
          cases q with
          | zero => omega
          | succ q =>
           cases p with
           | zero =>
            have hz : z = x:=by simpa using h1
            subst hz
            rw [List.filterMap_cons_some h3] at hnod
            have h5:=(List.nodup_cons.1 hnod).1
            exact h5 (List.mem_filterMap.2 ⟨y, List.mem_of_getElem? (i:=q) (by simpa using h2), h4⟩)
           | succ p =>
            have hnod' : (l.filterMap (·.dst)).Nodup:=by
             cases hz : z.dst with
             | none => rwa [List.filterMap_cons_none hz] at hnod
             | some dz => rw [List.filterMap_cons_some hz] at hnod; exact (List.nodup_cons.1 hnod).2
            exact ihl p q x y (by omega) (by simpa using h1) (by simpa using h2) h3 h4 hnod'
        have hti : (ops.toList.take n)[i]? = some oi:=by rw [List.getElem?_take]; simpa [hin] using hoi
        have htj : (ops.toList.take n)[j]? = some o:=by rw [List.getElem?_take]; simpa [hjn] using hjo
        rcases Nat.lt_or_gt_of_ne hij with h | h
        ·exact hh _ j i o oi h htj hti hdj hd hnd
        ·exact hh _ i j oi o h hti htj hd hdj hnd
       simp only [Act.put, Array.getElem?_setIfInBounds_ne hne]
     show F j ((a.put oi.dst v).tmps[dj]?.getD undef) w'
     rw [heq]
     exact hF _ _ _ _ h0 hRw
/-- A region that draws its order, by the facts of its head's values; its tail by the walk. -/
theorem wp_region_facts {id : Nat} {l : List Oper} {a0 : Act} {w0 : World} (n : Nat) (R : World → World → Prop) (F : Nat → Value → World → Prop) (hm : P.follows .mixedOrders = true)
  (hok : regOk l.toArray n a0.tmps.size = true) (hR0 : R w0 w0.drew) (hRt : ∀ a b c, R a b → R b c → R a c) (hF : ∀ i v w w', F i v w → R w w' → F i v w')
  (hsteps : steps P l.toArray Q R F n a0 w0 0 (l.take n))
  (hend : ∀ a w, R w0 w → sameBut (headDsts l.toArray n) a0 a → facts F a w 0 (l.take n) → wpList P l.toArray Q (l.drop n) a w) :
  (Code.region id l.toArray true).wp P Q a0 w0:=by
 refine wp_region_any hm ?_
 have hn : n < l.length:=by
  simp only [regOk, Bool.and_eq_true, decide_eq_true_eq] at hok
  simpa using hok.1.1.1.1.1.1.1
 have inv0 : HeadInv .any l.toArray n (Array.replicate l.toArray.size false) :=
  ⟨by simp, fun j oj _ hl => (by rw [getD_replicate_false] at hl; cases hl), fun t _ ht => getD_in (by simpa using ht) (getD_replicate_false _ _)⟩
 have hleft : (left n (Array.replicate l.toArray.size false)).length = n:=by
  unfold left
  rw [List.filter_eq_self.2 (fun i hi => by
   have : i < l.length:=by have:=List.mem_range.1 hi; omega
   simp [this])]
  simp
 have:=wpAny_facts (P:=P) (Q:=Q) hRt hF hok (by simpa using hsteps) (by simpa using hend) n (Array.replicate l.toArray.size false) a0 w0.drew hleft inv0 hR0 ⟨rfl, rfl, fun _ _ => rfl⟩
  (fun i o hi _ hl => by
   have : i < l.length:=by omega
   simp [this] at hl)
 rw [show n + (l.toArray.size - n) = l.toArray.size by simp; omega] at this
 exact this
def setAll (tmps : Array Value) (f : Nat → Value) : List Tmp → Array Value
 | [] => tmps
 | d :: r => setAll (tmps.setIfInBounds d (f d)) f r
theorem setAll_size (f : Nat → Value) : ∀ (ds : List Tmp) (tmps : Array Value), (setAll tmps f ds).size = tmps.size
 | [], _ => rfl
 | d :: r, tmps => by rw [setAll, setAll_size f r]; simp
theorem setAll_other (f : Nat → Value) {t : Tmp} : ∀ (ds : List Tmp) (tmps : Array Value), t ∉ ds → (setAll tmps f ds)[t]? = tmps[t]?
 | [], _, _ => rfl
 | d :: r, tmps, h => by
  have h' : t ≠ d ∧ t ∉ r:=⟨fun e => h (e ▸ .head _), fun e => h (.tail _ e)⟩
  rw [setAll, setAll_other f r _ h'.2, Array.getElem?_setIfInBounds_ne (Ne.symm h'.1)]
theorem setAll_same (f : Nat → Value) {t : Tmp} : ∀ (ds : List Tmp) (tmps : Array Value), t ∈ ds → t < tmps.size → (setAll tmps f ds)[t]? = some (f t)
 | d :: r, tmps, h, hl => by
  rw [setAll]
  rcases Classical.em (t ∈ r) with hr | hr
  ·exact setAll_same f r _ hr (by simpa using hl)
  ·rw [setAll_other f r _ hr]
   rcases List.mem_cons.1 h with rfl | h
   ·simp [hl]
   ·exact absurd h hr
theorem act_of_sameBut {ds : List Tmp} {a0 a : Act} (h : sameBut ds a0 a) : a = ⟨setAll a0.tmps (fun d => a.tmps[d]?.getD undef) ds, a0.defers⟩:=by
 obtain ⟨h1, h2, h3⟩:=h
 cases a with
 | mk tmps defers =>
  simp only at h1 h2 h3
  subst h1
  congr 1
  apply Array.ext_getElem?
  intro t
  rcases Classical.em (t ∈ ds) with ht | ht
  ·rcases Nat.lt_or_ge t tmps.size with hl | hl
   ·rw [setAll_same _ ds _ ht (by rw [← h2]; exact hl)]
    simp [hl]
   ·rw [Array.getElem?_eq_none hl, Array.getElem?_eq_none (by rw [setAll_size, ← h2]; exact hl)]
  ·rw [setAll_other _ ds _ ht]
   exact h3 t ht
def factsV (F : Nat → Value → World → Prop) (f : Nat → Value) (w : World) : Nat → List Oper → Prop
 | _, [] => True
 | i, o :: l => (match o.dst with | some d => F i (f d) w | none => F i undef w) ∧ factsV F f w (i + 1) l
theorem factsV_of {F : Nat → Value → World → Prop} {a : Act} {w : World} : ∀ (l : List Oper) (k : Nat), facts F a w k l → factsV F (fun d => a.tmps[d]?.getD undef) w k l
 | [], _, _ => trivial
 | _ :: l, k, h => ⟨h.1, factsV_of l (k + 1) h.2⟩
/-- The same, the frame behind the head written out. -/
theorem wp_region_facts' {id : Nat} {l : List Oper} {a0 : Act} {w0 : World} (n : Nat) (R : World → World → Prop) (F : Nat → Value → World → Prop) (hm : P.follows .mixedOrders = true)
  (hok : regOk l.toArray n a0.tmps.size = true) (hR0 : R w0 w0.drew) (hRt : ∀ a b c, R a b → R b c → R a c) (hF : ∀ i v w w', F i v w → R w w' → F i v w')
  (hsteps : steps P l.toArray Q R F n a0 w0 0 (l.take n))
  (hend : ∀ f w, R w0 w → factsV F f w 0 (l.take n) → wpList P l.toArray Q (l.drop n) ⟨setAll a0.tmps f (headDsts l.toArray n), a0.defers⟩ w) :
  (Code.region id l.toArray true).wp P Q a0 w0 :=
 wp_region_facts n R F hm hok hR0 hRt hF hsteps fun a w hR hs hf => by
  rw [act_of_sameBut hs]
  exact hend _ w hR (factsV_of _ _ hf)
/-- An operation that yields a value. -/
theorem ow_value {o : Oper} {a : Act} {w w' : World} {v : Value} {K : Act → World → Prop} (hrun : (execOp a.eval o).run P w = .ok (.value v) w') (h : K (a.put o.dst v) w') : o.wp P a w K Q:=by
 unfold Oper.wp
 rw [hrun]
 exact h
theorem ov {o : Oper} {a : Act} {w : World} {K : Act → World → Prop} (w' : World) (v : Value) (hrun : (execOp a.eval o).run P w = .ok (.value v) w') (h : K (a.put o.dst v) w') : o.wp P a w K Q:=ow_value hrun h
/-- An operation that yields none. -/
theorem ow_skip {o : Oper} {a : Act} {w w' : World} {K : Act → World → Prop} (hrun : (execOp a.eval o).run P w = .ok .skip w') (h : K (a.put o.dst undef) w') : o.wp P a w K Q:=by
 unfold Oper.wp
 rw [hrun]
 exact h
/-- A call that is entered, by its contract. -/
theorem ow_call {o : Oper} {a : Act} {w w' : World} {f : FuncId} {args : Array Value} {K : Act → World → Prop} {C : Ending → World → Prop} (hrun : (execOp a.eval o).run P w = .ok (.enter f args) w') (hc : Calls P f args w' C)
  (h : ∀ e w'', C e w'' → ∃ v, e = .returned v ∧ K (a.put o.dst v) w'') : o.wp P a w K Q:=by
 unfold Oper.wp
 rw [hrun]
 refine hc.mono fun e w'' he => ?_
 obtain ⟨v, rfl, hk⟩:=h e w'' he
 exact hk
end
end Go.Proofs.YtmpjikihnmagoaaGreatDoor
/-
 A law for a region that draws its order, in which operations write: each operation i of the head has its own effect E i; the facts of the others' values, and what the others yet need, outlive it. No program in sight. Conditions: those of the law's premises.
-/
namespace Go.Proofs.YtmpjikihnmagoaaGreatDoor
open Go.RowKit
section
variable {P : Program} {ops : Array Oper} {Q : Exit → Act → World → Prop}
def stepPE (P : Program) (ops : Array Oper) (Q : Exit → Act → World → Prop) (R : World → World → Prop) (E : Nat → World → World → Prop) (Pre : Nat → World → Prop) (F : Nat → Value → World → Prop) (n : Nat) (a0 : Act) (w0 : World) (i : Nat) (o : Oper) : Prop :=
 ∀ a w, R w0 w → Pre i w → sameBut (headDsts ops n) a0 a → deps ops F a w o.after.toList → o.wp P a w (StepPost (E i) F i o a w) Q
def stepsE (P : Program) (ops : Array Oper) (Q : Exit → Act → World → Prop) (R : World → World → Prop) (E : Nat → World → World → Prop) (Pre : Nat → World → Prop) (F : Nat → Value → World → Prop) (n : Nat) (a0 : Act) (w0 : World) : Nat → List Oper → Prop
 | _, [] => True
 | i, o :: l => stepPE P ops Q R E Pre F n a0 w0 i o ∧ stepsE P ops Q R E Pre F n a0 w0 (i + 1) l
theorem stepsE_at {R : World → World → Prop} {E : Nat → World → World → Prop} {Pre : Nat → World → Prop} {F : Nat → Value → World → Prop} {n : Nat} {a0 : Act} {w0 : World} : ∀ (l : List Oper) (k : Nat), stepsE P ops Q R E Pre F n a0 w0 k l → ∀ j o, l[j]? = some o → stepPE P ops Q R E Pre F n a0 w0 (k + j) o
 | [], _, _, j, o, h => by simp at h
 | x :: l, k, h, 0, o, hj => by
  have : x = o:=by simpa using hj
  subst this
  exact h.1
 | x :: l, k, h, j + 1, o, hj => by
  have:=stepsE_at l (k + 1) h.2 j o (by simpa using hj)
  rwa [show k + 1 + j = k + (j + 1) by omega] at this
theorem wpAny_effs {R : World → World → Prop} {E : Nat → World → World → Prop} {Pre : Nat → World → Prop} {F : Nat → Value → World → Prop} {n : Nat} {a0 : Act} {w0 : World} (hRt : ∀ i a b c, R a b → E i b c → R a c) (hF : ∀ i j v w w', i ≠ j → F j v w → E i w w' → F j v w') (hPr : ∀ i j w w', i ≠ j → Pre j w → E i w w' → Pre j w')
  (hok : regOk ops n a0.tmps.size = true) (hsteps : stepsE P ops Q R E Pre F n a0 w0 0 (ops.toList.take n))
  (hend : ∀ a w, R w0 w → sameBut (headDsts ops n) a0 a → facts F a w 0 (ops.toList.take n) → wpList P ops Q (ops.toList.drop n) a w) :
  ∀ (c : Nat) (listed : Array Bool) (a : Act) (w : World), (left n listed).length = c → HeadInv .any ops n listed → R w0 w → sameBut (headDsts ops n) a0 a →
   (∀ i o, i < n → ops[i]? = some o → listed.getD i true = true → dstFact F i o a w) → (∀ i, i < n → listed.getD i true = false → Pre i w) → wpAny P .any ops Q (c + (ops.size - n)) listed a w:=by
 simp only [regOk, Bool.and_eq_true, decide_eq_true_eq] at hok
 obtain ⟨⟨⟨⟨⟨⟨⟨hn, hsink⟩, hchain⟩, hguard⟩, hback⟩, hnd⟩, hdl⟩, hseq⟩:=hok
 intro c
 induction c with
 | zero =>
  intro listed a w hc inv hR hs hfacts hpre
  have hall : ∀ i, i < n → listed.getD i true = true:=by
   intro i hi
   cases hl : listed.getD i true with
   | true => rfl
   | false =>
    have : i ∈ left n listed:=List.mem_filter.2 ⟨by simpa using hi, by simpa using hl⟩
    have:=List.length_pos_of_mem this
    omega
  have he : listed = (List.replicate n true ++ List.replicate (ops.size - n) false).toArray:=by
   apply Array.ext
   ·simp [inv.size]; omega
   ·intro i h1 h2
    rcases Nat.lt_or_ge i n with hi | hi
    ·have:=hall i hi
     simp [h1] at this
     simp [this, hi]
    ·have:=inv.tail i hi (by rw [← inv.size]; exact h1)
     simp [h1] at this
     simp only [List.getElem_toArray]
     rw [List.getElem_append_right (by simpa using hi)]
     simp [this]
  rw [Nat.zero_add]
  have hd : (ops.toList.drop n).length = ops.size - n:=by simp
  have:=wpAny_of_seq (P:=P) (md:=.any) (ops:=ops) (Q':=Q) (ops.toList.drop n) n listed a w (fun j => by simp [List.getElem?_drop]) (by rw [hd, he]; exact hseq)
   (hend a w hR hs (facts_of _ _ (fun j o hj => by
    have hjn : j < n:=by
     have:=(List.getElem?_eq_some_iff.1 hj).1
     simp at this
     omega
    have hjo : ops[j]? = some o:=by
     rw [List.getElem?_take] at hj
     simpa [hjn] using hj
    simpa using hfacts j o hjn hjo (hall j hjn))))
  rwa [hd] at this
 | succ c ih =>
  intro listed a w hc inv hR hs hfacts hpre
  rw [show c + 1 + (ops.size - n) = (c + (ops.size - n)) + 1 by omega]
  have hex : ∃ i, i ∈ left n listed:=by
   cases h : left n listed with
   | nil => rw [h] at hc; simp at hc
   | cons x l => exact ⟨x, .head _⟩
  -- the least one that is left is ready
  have hready : Region.ready .any ops listed ≠ []:=by
   obtain ⟨i0, hi0⟩:=hex
   have : ∃ i, i ∈ left n listed ∧ ∀ j, j < i → j ∉ left n listed:=by
    induction i0 using Nat.strongRecOn with
    | _ i0 ih0 =>
     rcases Classical.em (∃ j, j < i0 ∧ j ∈ left n listed) with ⟨j, h1, h2⟩ | h
     ·exact ih0 j h1 h2
     ·exact ⟨i0, hi0, fun j hj hm => h ⟨j, hj, hm⟩⟩
   obtain ⟨i, him, hmin⟩:=this
   have h1:=List.mem_filter.1 him
   have hin : i < n:=by simpa using h1.1
   have hlf : listed.getD i true = false:=by simpa using h1.2
   have hio : i < ops.size:=by omega
   have hmem : i ∈ Region.ready .any ops listed:=by
    refine mem_ready.2 ⟨hlf, ops[i], by simp [hio], fun e he hb => ?_⟩
    have hb1:=List.all_eq_true.1 hback i (by simpa using hin)
    simp only [Array.getElem?_eq_getElem hio] at hb1
    have hb2:=List.all_eq_true.1 hb1 e (by simpa using he)
    simp only [hb, Bool.not_true, Bool.false_or, decide_eq_true_eq] at hb2
    have hne:=hmin e.on hb2
    cases hl : listed.getD e.on false with
    | true => rfl
    | false =>
     exact absurd (List.mem_filter.2 ⟨by simp; omega, by
      have:=getD_in (listed:=listed) (i:=e.on) (by rw [inv.size]; omega) hl
      simpa using this⟩) hne
   intro h0
   rw [h0] at hmem
   cases hmem
  refine ⟨fun h0 => absurd h0 hready, fun i hi => ?_⟩
  obtain ⟨i0, hi0⟩:=hex
  have hi0':=List.mem_filter.1 hi0
  have hin : i < n:=by
   rcases Nat.lt_or_ge i n with h | h
   ·exact h
   ·exact absurd hi (tail_waits hsink hchain hn inv (n - i0) i0 rfl (by simpa using hi0'.1) (by simpa using hi0'.2) i h)
  obtain ⟨hlf, oi, hoi, hall⟩:=mem_ready.1 hi
  have hst:=stepsE_at (ops.toList.take n) 0 hsteps i oi (by rw [List.getElem?_take]; simpa [hin] using hoi)
  rw [Nat.zero_add] at hst
  have hg : oi.guard = none:=by
   have:=List.all_eq_true.1 hguard oi (List.mem_of_getElem? (i:=i) (by rw [List.getElem?_take]; simpa [hin] using hoi))
   simpa using this
  have hdeps : ∀ l : List Edge, (∀ e ∈ l, e ∈ oi.after) → deps ops F a w l:=by
   intro l
   induction l with
   | nil => intro _; trivial
   | cons e l ihl =>
    intro hl
    refine ⟨fun hb => ?_, ihl (fun x hx => hl x (.tail _ hx))⟩
    have hlist:=hall e (hl e (.head _)) hb
    have hb1:=List.all_eq_true.1 hback i (by simpa using hin)
    simp only [hoi] at hb1
    have hb2:=List.all_eq_true.1 hb1 e (by simpa using hl e (.head _))
    simp only [hb, Bool.not_true, Bool.false_or, decide_eq_true_eq] at hb2
    cases hoe : ops[e.on]? with
    | none => trivial
    | some oe =>
     refine hfacts e.on oe (by omega) hoe ?_
     cases h : listed.getD e.on true with
     | true => rfl
     | false => rw [getD_both h] at hlist; cases hlist
  have hrun:=hst a w hR (hpre i hin hlf) hs (hdeps _ (fun e he => by simpa using he))
  unfold wpOp
  simp only [hoi]
  rw [if_pos (by simp [Region.wanted, hg])]
  refine .inl (Oper.wp_mono ?_ hrun)
  rintro a' w' ⟨v, rfl, hRw, hFv, hFn⟩
  refine ih (listed.setIfInBounds i true) _ w' (by have:=left_set hin hlf; omega) (inv.set hi hin) (hRt _ _ _ _ hR hRw) ?_ ?_ ?_
  ·cases hd : oi.dst with
   | none => exact hs
   | some d =>
    refine ⟨hs.1, by simpa [Act.put] using hs.2.1, fun t ht => ?_⟩
    have hdm : d ∈ headDsts ops n:=List.mem_filterMap.2 ⟨oi, List.mem_of_getElem? (i:=i) (by rw [List.getElem?_take]; simpa [hin] using hoi), hd⟩
    have hne : d ≠ t:=fun e => ht (e ▸ hdm)
    simp only [Act.put, Array.getElem?_setIfInBounds_ne hne]
    exact hs.2.2 t ht
  ·intro j o hjn hjo hlj
   by_cases hij : j = i
   ·subst hij
    obtain rfl : oi = o:=Option.some.inj (hoi.symm.trans hjo)
    unfold dstFact
    cases hd : oi.dst with
    | none => exact hFn hd
    | some d =>
     have hdm : d ∈ headDsts ops n:=List.mem_filterMap.2 ⟨oi, List.mem_of_getElem? (i:=j) (by rw [List.getElem?_take]; simpa [hin] using hoi), hd⟩
     have hdlt : d < a.tmps.size:=by
      have:=List.all_eq_true.1 hdl d hdm
      rw [hs.2.1]
      simpa using this
     simp [Act.put, hdlt, hFv]
   ·have hlj' : listed.getD j true = true:=by
     simpa [Array.getElem?_setIfInBounds_ne (Ne.symm hij)] using hlj
    have h0:=hfacts j o hjn hjo hlj'
    unfold dstFact at h0 ⊢
    cases hdj : o.dst with
    | none => rw [hdj] at h0; exact hF _ _ _ _ _ (Ne.symm hij) h0 hRw
    | some dj =>
     rw [hdj] at h0
     have heq : (a.put oi.dst v).tmps[dj]? = a.tmps[dj]?:=by
      cases hd : oi.dst with
      | none => rfl
      | some d =>
       have hne : d ≠ dj:=by
        intro e
        subst e
        -- two operations of the head that write one slot
        have hh : ∀ (l : List Oper) (p q : Nat) (x y : Oper), p < q → l[p]? = some x → l[q]? = some y → x.dst = some d → y.dst = some d → ¬ (l.filterMap (·.dst)).Nodup:=by
         intro l
         induction l with
         | nil => intro p q x y _ h; simp at h
         | cons z l ihl =>
          intro p q x y hpq h1 h2 h3 h4 hnod
          cases q with
          | zero => omega
          | succ q =>
           cases p with
           | zero =>
            have hz : z = x:=by simpa using h1
            subst hz
            rw [List.filterMap_cons_some h3] at hnod
            have h5:=(List.nodup_cons.1 hnod).1
            exact h5 (List.mem_filterMap.2 ⟨y, List.mem_of_getElem? (i:=q) (by simpa using h2), h4⟩)
           | succ p =>
            have hnod' : (l.filterMap (·.dst)).Nodup:=by
             cases hz : z.dst with
             | none => rwa [List.filterMap_cons_none hz] at hnod
             | some dz => rw [List.filterMap_cons_some hz] at hnod; exact (List.nodup_cons.1 hnod).2
            exact ihl p q x y (by omega) (by simpa using h1) (by simpa using h2) h3 h4 hnod'
        have hti : (ops.toList.take n)[i]? = some oi:=by rw [List.getElem?_take]; simpa [hin] using hoi
        have htj : (ops.toList.take n)[j]? = some o:=by rw [List.getElem?_take]; simpa [hjn] using hjo
        rcases Nat.lt_or_gt_of_ne hij with h | h
        ·exact hh _ j i o oi h htj hti hdj hd hnd
        ·exact hh _ i j oi o h hti htj hd hdj hnd
       simp only [Act.put, Array.getElem?_setIfInBounds_ne hne]
     show F j ((a.put oi.dst v).tmps[dj]?.getD undef) w'
     rw [heq]
     exact hF _ _ _ _ _ (Ne.symm hij) h0 hRw
  ·intro j hjn hlj
   have hij : i ≠ j:=by
    intro e
    subst e
    have hsz : i < listed.size:=by rw [inv.size]; omega
    simp [hsz] at hlj
   refine hPr i j w w' hij (hpre j hjn ?_) hRw
   simpa [Array.getElem?_setIfInBounds_ne hij] using hlj
/-- A region that draws its order, by the facts of its head's values; its tail by the walk. -/
theorem wp_region_effs {id : Nat} {l : List Oper} {a0 : Act} {w0 : World} (n : Nat) (R : World → World → Prop) (E : Nat → World → World → Prop) (Pre : Nat → World → Prop) (F : Nat → Value → World → Prop) (hm : P.follows .mixedOrders = true)
  (hok : regOk l.toArray n a0.tmps.size = true) (hR0 : R w0 w0.drew) (hRt : ∀ i a b c, R a b → E i b c → R a c) (hP0 : ∀ i, i < n → Pre i w0.drew) (hF : ∀ i j v w w', i ≠ j → F j v w → E i w w' → F j v w') (hPr : ∀ i j w w', i ≠ j → Pre j w → E i w w' → Pre j w')
  (hsteps : stepsE P l.toArray Q R E Pre F n a0 w0 0 (l.take n))
  (hend : ∀ a w, R w0 w → sameBut (headDsts l.toArray n) a0 a → facts F a w 0 (l.take n) → wpList P l.toArray Q (l.drop n) a w) :
  (Code.region id l.toArray true).wp P Q a0 w0:=by
 refine wp_region_any hm ?_
 have hn : n < l.length:=by
  simp only [regOk, Bool.and_eq_true, decide_eq_true_eq] at hok
  simpa using hok.1.1.1.1.1.1.1
 have inv0 : HeadInv .any l.toArray n (Array.replicate l.toArray.size false) :=
  ⟨by simp, fun j oj _ hl => (by rw [getD_replicate_false] at hl; cases hl), fun t _ ht => getD_in (by simpa using ht) (getD_replicate_false _ _)⟩
 have hleft : (left n (Array.replicate l.toArray.size false)).length = n:=by
  unfold left
  rw [List.filter_eq_self.2 (fun i hi => by
   have : i < l.length:=by have:=List.mem_range.1 hi; omega
   simp [this])]
  simp
 have:=wpAny_effs (P:=P) (Q:=Q) hRt hF hPr hok (by simpa using hsteps) (by simpa using hend) n (Array.replicate l.toArray.size false) a0 w0.drew hleft inv0 hR0 ⟨rfl, rfl, fun _ _ => rfl⟩
  (fun i o hi _ hl => by
   have : i < l.length:=by omega
   simp [this] at hl)
  (fun i hi _ => hP0 i hi)
 rw [show n + (l.toArray.size - n) = l.toArray.size by simp; omega] at this
 exact this
/-- The same, the frame behind the head written out. -/
theorem wp_region_effs' {id : Nat} {l : List Oper} {a0 : Act} {w0 : World} (n : Nat) (R : World → World → Prop) (E : Nat → World → World → Prop) (Pre : Nat → World → Prop) (F : Nat → Value → World → Prop) (hm : P.follows .mixedOrders = true)
  (hok : regOk l.toArray n a0.tmps.size = true) (hR0 : R w0 w0.drew) (hRt : ∀ i a b c, R a b → E i b c → R a c) (hP0 : ∀ i, i < n → Pre i w0.drew) (hF : ∀ i j v w w', i ≠ j → F j v w → E i w w' → F j v w') (hPr : ∀ i j w w', i ≠ j → Pre j w → E i w w' → Pre j w')
  (hsteps : stepsE P l.toArray Q R E Pre F n a0 w0 0 (l.take n))
  (hend : ∀ f w, R w0 w → factsV F f w 0 (l.take n) → wpList P l.toArray Q (l.drop n) ⟨setAll a0.tmps f (headDsts l.toArray n), a0.defers⟩ w) :
  (Code.region id l.toArray true).wp P Q a0 w0 :=
 wp_region_effs n R E Pre F hm hok hR0 hRt hP0 hF hPr hsteps fun a w hR hs hf => by
  rw [act_of_sameBut hs]
  exact hend _ w hR (factsV_of _ _ hf)
end
end Go.Proofs.YtmpjikihnmagoaaGreatDoor
/-
 The same law where operations of the head stand behind a guard: one that is not wanted yields nothing. No program in sight. Conditions: those of the law's premises.
-/
namespace Go.Proofs.YtmpjikihnmagoaaGreatDoor
open Go.RowKit
section
variable {P : Program} {ops : Array Oper} {Q : Exit → Act → World → Prop}
/-- i waits for j. -/
def waitsB (ops : Array Oper) (i j : Nat) : Bool:=match ops[i]? with | some o => o.after.toList.any (fun e => Region.binds .any e && e.on == j) | none => false
/-- The region's form, guards let in. -/
def regOkG (ops : Array Oper) (n size : Nat) : Bool :=
 decide (n < ops.size) && Region.sinkB .any ops n && Region.chainB .any ops n &&
 (List.range n).all (fun i => match ops[i]? with | some o => o.after.toList.all (fun e => !Region.binds .any e || decide (e.on < i)) | none => true) &&
 decide ((headDsts ops n).Nodup) && (headDsts ops n).all (fun d => decide (d < size)) &&
 Region.seqB .any ops (ops.size - n) n ((List.replicate n true ++ List.replicate (ops.size - n) false).toArray)
theorem yielded_of {ops : Array Oper} {tmps : Array Value} {j : Nat} {d : Tmp} {b : Bool} {oj : Oper} (hj : ops[j]? = some oj) (hd : oj.dst = some d) (h : tmps[d]?.getD undef = .bool b) : yielded ops tmps j = some b:=by
 cases ht : tmps[d]? with
 | none => rw [ht] at h; cases h
 | some v =>
  rw [ht] at h
  have : v = .bool b:=h
  subst this
  simp [yielded, hj, hd, ht]
def stepPG (P : Program) (ops : Array Oper) (Q : Exit → Act → World → Prop) (R : World → World → Prop) (E : Nat → World → World → Prop) (Pre : Nat → World → Prop) (F : Nat → Value → World → Prop) (n : Nat) (a0 : Act) (w0 : World) (i : Nat) (o : Oper) : Prop :=
 ∀ a w, R w0 w → Pre i w → sameBut (headDsts ops n) a0 a → deps ops F a w o.after.toList → (Region.wanted o (yielded ops a.tmps) = true → o.wp P a w (StepPost (E i) F i o a w) Q) ∧ (Region.wanted o (yielded ops a.tmps) = false → E i w w ∧ F i undef w)
def stepsG (P : Program) (ops : Array Oper) (Q : Exit → Act → World → Prop) (R : World → World → Prop) (E : Nat → World → World → Prop) (Pre : Nat → World → Prop) (F : Nat → Value → World → Prop) (n : Nat) (a0 : Act) (w0 : World) : Nat → List Oper → Prop
 | _, [] => True
 | i, o :: l => stepPG P ops Q R E Pre F n a0 w0 i o ∧ stepsG P ops Q R E Pre F n a0 w0 (i + 1) l
theorem stepsG_at {R : World → World → Prop} {E : Nat → World → World → Prop} {Pre : Nat → World → Prop} {F : Nat → Value → World → Prop} {n : Nat} {a0 : Act} {w0 : World} : ∀ (l : List Oper) (k : Nat), stepsG P ops Q R E Pre F n a0 w0 k l → ∀ j o, l[j]? = some o → stepPG P ops Q R E Pre F n a0 w0 (k + j) o
 | [], _, _, j, o, h => by simp at h
 | x :: l, k, h, 0, o, hj => by
  have : x = o:=by simpa using hj
  subst this
  exact h.1
 | x :: l, k, h, j + 1, o, hj => by
  have:=stepsG_at l (k + 1) h.2 j o (by simpa using hj)
  rwa [show k + 1 + j = k + (j + 1) by omega] at this
theorem wpAny_gd {R : World → World → Prop} {E : Nat → World → World → Prop} {Pre : Nat → World → Prop} {F : Nat → Value → World → Prop} {n : Nat} {a0 : Act} {w0 : World} (hRt : ∀ i a b c, R a b → E i b c → R a c) (hF : ∀ i j v w w', i ≠ j → F j v w → E i w w' → F j v w') (hPr : ∀ i j w w', i ≠ j → waitsB ops i j = false → Pre j w → E i w w' → Pre j w')
  (hok : regOkG ops n a0.tmps.size = true) (hsteps : stepsG P ops Q R E Pre F n a0 w0 0 (ops.toList.take n))
  (hend : ∀ a w, R w0 w → sameBut (headDsts ops n) a0 a → facts F a w 0 (ops.toList.take n) → wpList P ops Q (ops.toList.drop n) a w) :
  ∀ (c : Nat) (listed : Array Bool) (a : Act) (w : World), (left n listed).length = c → HeadInv .any ops n listed → R w0 w → sameBut (headDsts ops n) a0 a →
   (∀ i o, i < n → ops[i]? = some o → listed.getD i true = true → dstFact F i o a w) → (∀ i, i < n → listed.getD i true = false → Pre i w) → wpAny P .any ops Q (c + (ops.size - n)) listed a w:=by
 simp only [regOkG, Bool.and_eq_true, decide_eq_true_eq] at hok
 obtain ⟨⟨⟨⟨⟨⟨hn, hsink⟩, hchain⟩, hback⟩, hnd⟩, hdl⟩, hseq⟩:=hok
 intro c
 induction c with
 | zero =>
  intro listed a w hc inv hR hs hfacts hpre
  have hall : ∀ i, i < n → listed.getD i true = true:=by
   intro i hi
   cases hl : listed.getD i true with
   | true => rfl
   | false =>
    have : i ∈ left n listed:=List.mem_filter.2 ⟨by simpa using hi, by simpa using hl⟩
    have:=List.length_pos_of_mem this
    omega
  have he : listed = (List.replicate n true ++ List.replicate (ops.size - n) false).toArray:=by
   apply Array.ext
   ·simp [inv.size]; omega
   ·intro i h1 h2
    rcases Nat.lt_or_ge i n with hi | hi
    ·have:=hall i hi
     simp [h1] at this
     simp [this, hi]
    ·have:=inv.tail i hi (by rw [← inv.size]; exact h1)
     simp [h1] at this
     simp only [List.getElem_toArray]
     rw [List.getElem_append_right (by simpa using hi)]
     simp [this]
  rw [Nat.zero_add]
  have hd : (ops.toList.drop n).length = ops.size - n:=by simp
  have:=wpAny_of_seq (P:=P) (md:=.any) (ops:=ops) (Q':=Q) (ops.toList.drop n) n listed a w (fun j => by simp [List.getElem?_drop]) (by rw [hd, he]; exact hseq)
   (hend a w hR hs (facts_of _ _ (fun j o hj => by
    have hjn : j < n:=by
     have:=(List.getElem?_eq_some_iff.1 hj).1
     simp at this
     omega
    have hjo : ops[j]? = some o:=by
     rw [List.getElem?_take] at hj
     simpa [hjn] using hj
    simpa using hfacts j o hjn hjo (hall j hjn))))
  rwa [hd] at this
 | succ c ih =>
  intro listed a w hc inv hR hs hfacts hpre
  rw [show c + 1 + (ops.size - n) = (c + (ops.size - n)) + 1 by omega]
  have hex : ∃ i, i ∈ left n listed:=by
   cases h : left n listed with
   | nil => rw [h] at hc; simp at hc
   | cons x l => exact ⟨x, .head _⟩
  -- the least one that is left is ready
  have hready : Region.ready .any ops listed ≠ []:=by
   obtain ⟨i0, hi0⟩:=hex
   have : ∃ i, i ∈ left n listed ∧ ∀ j, j < i → j ∉ left n listed:=by
    induction i0 using Nat.strongRecOn with
    | _ i0 ih0 =>
     rcases Classical.em (∃ j, j < i0 ∧ j ∈ left n listed) with ⟨j, h1, h2⟩ | h
     ·exact ih0 j h1 h2
     ·exact ⟨i0, hi0, fun j hj hm => h ⟨j, hj, hm⟩⟩
   obtain ⟨i, him, hmin⟩:=this
   have h1:=List.mem_filter.1 him
   have hin : i < n:=by simpa using h1.1
   have hlf : listed.getD i true = false:=by simpa using h1.2
   have hio : i < ops.size:=by omega
   have hmem : i ∈ Region.ready .any ops listed:=by
    refine mem_ready.2 ⟨hlf, ops[i], by simp [hio], fun e he hb => ?_⟩
    have hb1:=List.all_eq_true.1 hback i (by simpa using hin)
    simp only [Array.getElem?_eq_getElem hio] at hb1
    have hb2:=List.all_eq_true.1 hb1 e (by simpa using he)
    simp only [hb, Bool.not_true, Bool.false_or, decide_eq_true_eq] at hb2
    have hne:=hmin e.on hb2
    cases hl : listed.getD e.on false with
    | true => rfl
    | false =>
     exact absurd (List.mem_filter.2 ⟨by simp; omega, by
      have:=getD_in (listed:=listed) (i:=e.on) (by rw [inv.size]; omega) hl
      simpa using this⟩) hne
   intro h0
   rw [h0] at hmem
   cases hmem
  refine ⟨fun h0 => absurd h0 hready, fun i hi => ?_⟩
  obtain ⟨i0, hi0⟩:=hex
  have hi0':=List.mem_filter.1 hi0
  have hin : i < n:=by
   rcases Nat.lt_or_ge i n with h | h
   ·exact h
   ·exact absurd hi (tail_waits hsink hchain hn inv (n - i0) i0 rfl (by simpa using hi0'.1) (by simpa using hi0'.2) i h)
  obtain ⟨hlf, oi, hoi, hall⟩:=mem_ready.1 hi
  have hst:=stepsG_at (ops.toList.take n) 0 hsteps i oi (by rw [List.getElem?_take]; simpa [hin] using hoi)
  rw [Nat.zero_add] at hst
  have hdeps : ∀ l : List Edge, (∀ e ∈ l, e ∈ oi.after) → deps ops F a w l:=by
   intro l
   induction l with
   | nil => intro _; trivial
   | cons e l ihl =>
    intro hl
    refine ⟨fun hb => ?_, ihl (fun x hx => hl x (.tail _ hx))⟩
    have hlist:=hall e (hl e (.head _)) hb
    have hb1:=List.all_eq_true.1 hback i (by simpa using hin)
    simp only [hoi] at hb1
    have hb2:=List.all_eq_true.1 hb1 e (by simpa using hl e (.head _))
    simp only [hb, Bool.not_true, Bool.false_or, decide_eq_true_eq] at hb2
    cases hoe : ops[e.on]? with
    | none => trivial
    | some oe =>
     refine hfacts e.on oe (by omega) hoe ?_
     cases h : listed.getD e.on true with
     | true => rfl
     | false => rw [getD_both h] at hlist; cases hlist
  have hrun:=hst a w hR (hpre i hin hlf) hs (hdeps _ (fun e he => by simpa using he))
  unfold wpOp
  simp only [hoi]
  have post : ∀ a' w', StepPost (E i) F i oi a w a' w' → wpAny P .any ops Q (c + (ops.size - n)) (listed.setIfInBounds i true) a' w':=?_
  ·by_cases hw : Region.wanted oi (yielded ops a.tmps) = true
   ·rw [if_pos hw]
    exact .inl (Oper.wp_mono post (hrun.1 hw))
   ·rw [if_neg hw]
    have h0:=hrun.2 (by simpa using hw)
    exact post _ _ ⟨undef, rfl, h0.1, h0.2, fun _ => h0.2⟩
  rintro a' w' ⟨v, rfl, hRw, hFv, hFn⟩
  refine ih (listed.setIfInBounds i true) _ w' (by have:=left_set hin hlf; omega) (inv.set hi hin) (hRt _ _ _ _ hR hRw) ?_ ?_ ?_
  ·cases hd : oi.dst with
   | none => exact hs
   | some d =>
    refine ⟨hs.1, by simpa [Act.put] using hs.2.1, fun t ht => ?_⟩
    have hdm : d ∈ headDsts ops n:=List.mem_filterMap.2 ⟨oi, List.mem_of_getElem? (i:=i) (by rw [List.getElem?_take]; simpa [hin] using hoi), hd⟩
    have hne : d ≠ t:=fun e => ht (e ▸ hdm)
    simp only [Act.put, Array.getElem?_setIfInBounds_ne hne]
    exact hs.2.2 t ht
  ·intro j o hjn hjo hlj
   by_cases hij : j = i
   ·subst hij
    obtain rfl : oi = o:=Option.some.inj (hoi.symm.trans hjo)
    unfold dstFact
    cases hd : oi.dst with
    | none => exact hFn hd
    | some d =>
     have hdm : d ∈ headDsts ops n:=List.mem_filterMap.2 ⟨oi, List.mem_of_getElem? (i:=j) (by rw [List.getElem?_take]; simpa [hin] using hoi), hd⟩
     have hdlt : d < a.tmps.size:=by
      have:=List.all_eq_true.1 hdl d hdm
      rw [hs.2.1]
      simpa using this
     simp [Act.put, hdlt, hFv]
   ·have hlj' : listed.getD j true = true:=by
     simpa [Array.getElem?_setIfInBounds_ne (Ne.symm hij)] using hlj
    have h0:=hfacts j o hjn hjo hlj'
    unfold dstFact at h0 ⊢
    cases hdj : o.dst with
    | none => rw [hdj] at h0; exact hF _ _ _ _ _ (Ne.symm hij) h0 hRw
    | some dj =>
     rw [hdj] at h0
     have heq : (a.put oi.dst v).tmps[dj]? = a.tmps[dj]?:=by
      cases hd : oi.dst with
      | none => rfl
      | some d =>
       have hne : d ≠ dj:=by
        intro e
        subst e
        -- two operations of the head that write one slot
        have hh : ∀ (l : List Oper) (p q : Nat) (x y : Oper), p < q → l[p]? = some x → l[q]? = some y → x.dst = some d → y.dst = some d → ¬ (l.filterMap (·.dst)).Nodup:=by
         intro l
         induction l with
         | nil => intro p q x y _ h; simp at h
         | cons z l ihl =>
          intro p q x y hpq h1 h2 h3 h4 hnod
          cases q with
          | zero => omega
          | succ q =>
           cases p with
           | zero =>
            have hz : z = x:=by simpa using h1
            subst hz
            rw [List.filterMap_cons_some h3] at hnod
            have h5:=(List.nodup_cons.1 hnod).1
            exact h5 (List.mem_filterMap.2 ⟨y, List.mem_of_getElem? (i:=q) (by simpa using h2), h4⟩)
           | succ p =>
            have hnod' : (l.filterMap (·.dst)).Nodup:=by
             cases hz : z.dst with
             | none => rwa [List.filterMap_cons_none hz] at hnod
             | some dz => rw [List.filterMap_cons_some hz] at hnod; exact (List.nodup_cons.1 hnod).2
            exact ihl p q x y (by omega) (by simpa using h1) (by simpa using h2) h3 h4 hnod'
        have hti : (ops.toList.take n)[i]? = some oi:=by rw [List.getElem?_take]; simpa [hin] using hoi
        have htj : (ops.toList.take n)[j]? = some o:=by rw [List.getElem?_take]; simpa [hjn] using hjo
        rcases Nat.lt_or_gt_of_ne hij with h | h
        ·exact hh _ j i o oi h htj hti hdj hd hnd
        ·exact hh _ i j oi o h hti htj hd hdj hnd
       simp only [Act.put, Array.getElem?_setIfInBounds_ne hne]
     show F j ((a.put oi.dst v).tmps[dj]?.getD undef) w'
     rw [heq]
     exact hF _ _ _ _ _ (Ne.symm hij) h0 hRw
  ·intro j hjn hlj
   have hij : i ≠ j:=by
    intro e
    subst e
    have hsz : i < listed.size:=by rw [inv.size]; omega
    simp [hsz] at hlj
   have hlj' : listed.getD j true = false:=by simpa [Array.getElem?_setIfInBounds_ne hij] using hlj
   refine hPr i j w w' hij ?_ (hpre j hjn hlj') hRw
   cases hwt : waitsB ops i j with
   | false => rfl
   | true =>
    simp only [waitsB, hoi, List.any_eq_true, Bool.and_eq_true, beq_iff_eq] at hwt
    obtain ⟨e, he, hb, hej⟩:=hwt
    have h1:=hall e (by simpa using he) hb
    rw [hej] at h1
    rw [getD_both hlj'] at h1
    cases h1
/-- A region that draws its order, by the facts of its head's values; its tail by the walk. -/
theorem wp_region_gd {id : Nat} {l : List Oper} {a0 : Act} {w0 : World} (n : Nat) (R : World → World → Prop) (E : Nat → World → World → Prop) (Pre : Nat → World → Prop) (F : Nat → Value → World → Prop) (hm : P.follows .mixedOrders = true)
  (hok : regOkG l.toArray n a0.tmps.size = true) (hR0 : R w0 w0.drew) (hRt : ∀ i a b c, R a b → E i b c → R a c) (hP0 : ∀ i, i < n → Pre i w0.drew) (hF : ∀ i j v w w', i ≠ j → F j v w → E i w w' → F j v w') (hPr : ∀ i j w w', i ≠ j → waitsB l.toArray i j = false → Pre j w → E i w w' → Pre j w')
  (hsteps : stepsG P l.toArray Q R E Pre F n a0 w0 0 (l.take n))
  (hend : ∀ a w, R w0 w → sameBut (headDsts l.toArray n) a0 a → facts F a w 0 (l.take n) → wpList P l.toArray Q (l.drop n) a w) :
  (Code.region id l.toArray true).wp P Q a0 w0:=by
 refine wp_region_any hm ?_
 have hn : n < l.length:=by
  simp only [regOkG, Bool.and_eq_true, decide_eq_true_eq] at hok
  simpa using hok.1.1.1.1.1.1
 have inv0 : HeadInv .any l.toArray n (Array.replicate l.toArray.size false) :=
  ⟨by simp, fun j oj _ hl => (by rw [getD_replicate_false] at hl; cases hl), fun t _ ht => getD_in (by simpa using ht) (getD_replicate_false _ _)⟩
 have hleft : (left n (Array.replicate l.toArray.size false)).length = n:=by
  unfold left
  rw [List.filter_eq_self.2 (fun i hi => by
   have : i < l.length:=by have:=List.mem_range.1 hi; omega
   simp [this])]
  simp
 have:=wpAny_gd (P:=P) (Q:=Q) hRt hF hPr hok (by simpa using hsteps) (by simpa using hend) n (Array.replicate l.toArray.size false) a0 w0.drew hleft inv0 hR0 ⟨rfl, rfl, fun _ _ => rfl⟩
  (fun i o hi _ hl => by
   have : i < l.length:=by omega
   simp [this] at hl)
  (fun i hi _ => hP0 i hi)
 rw [show n + (l.toArray.size - n) = l.toArray.size by simp; omega] at this
 exact this
/-- The same, the frame behind the head written out. -/
theorem wp_region_gd' {id : Nat} {l : List Oper} {a0 : Act} {w0 : World} (n : Nat) (R : World → World → Prop) (E : Nat → World → World → Prop) (Pre : Nat → World → Prop) (F : Nat → Value → World → Prop) (hm : P.follows .mixedOrders = true)
  (hok : regOkG l.toArray n a0.tmps.size = true) (hR0 : R w0 w0.drew) (hRt : ∀ i a b c, R a b → E i b c → R a c) (hP0 : ∀ i, i < n → Pre i w0.drew) (hF : ∀ i j v w w', i ≠ j → F j v w → E i w w' → F j v w') (hPr : ∀ i j w w', i ≠ j → waitsB l.toArray i j = false → Pre j w → E i w w' → Pre j w')
  (hsteps : stepsG P l.toArray Q R E Pre F n a0 w0 0 (l.take n))
  (hend : ∀ f w, R w0 w → factsV F f w 0 (l.take n) → wpList P l.toArray Q (l.drop n) ⟨setAll a0.tmps f (headDsts l.toArray n), a0.defers⟩ w) :
  (Code.region id l.toArray true).wp P Q a0 w0 :=
 wp_region_gd n R E Pre F hm hok hR0 hRt hP0 hF hPr hsteps fun a w hR hs hf => by
  rw [act_of_sameBut hs]
  exact hend _ w hR (factsV_of _ _ hf)
end
end Go.Proofs.YtmpjikihnmagoaaGreatDoor
