/-
  Base words of this seat's proofs: slices that are read, maps keyed by strings. Conditions: none beyond each lemma's own.
-/
import Derived.Test.YtghgffhcdnmpnaaGreatB0
import Derived.Sort.EncStr
import Derived.Maps.AppendAt
import Derived.Laws.Rows
import Derived.Laws.Tables
namespace Go.Proofs.YtghgffhcdnmpnaaGreat
open Go.RowKit Go.MapKept

/-- The n elements, of s cells each, that a slice at A holds: the cells xs. -/
def SlIs (w : World) (s : Nat) (A : Option Addr) (n : Nat) (xs : List Value) : Prop :=
  xs.length = n * s ∧ n ≤ 9223372036854775807 ∧ (0 < n → ∃ b off, A = some ⟨b, off, none⟩ ∧ ∀ i v, xs[i]? = some v → w.cell? ⟨b, off + i, none⟩ = some v)

theorem SlIs.kept {S : List Nat} {w w' : World} {s : Nat} {A : Option Addr} {n : Nat} {xs : List Value} (h : SlIs w s A n xs) (k : Kept S w w') (hS : ∀ a, A = some a → a.block ∉ S) : SlIs w' s A n xs := by
  refine ⟨h.1, h.2.1, fun hn => ?_⟩
  obtain ⟨b, off, hA, hc⟩ := h.2.2 hn
  exact ⟨b, off, hA, fun i v hv => k.cell (hc i v hv) (hS ⟨b, off, none⟩ hA)⟩
theorem SlIs.kept0 {w w' : World} {s : Nat} {A : Option Addr} {n : Nat} {xs : List Value} (h : SlIs w s A n xs) (k : Kept [] w w') : SlIs w' s A n xs := h.kept k (fun _ _ => by simp)
theorem SlIs.nil (w : World) (s : Nat) (A : Option Addr) : SlIs w s A 0 [] := ⟨by simp, by omega, fun h => absurd h (by omega)⟩
/-- A slice of the call's own reads as what it owns. -/
theorem own_sl {w : World} {base : Nat} {e : TypeId} {s n : Nat} {v : Value} {xs : List Value} (h : w.ownsRow base e s v n xs) : ∃ A c, v = .slice A n c ∧ SlIs w s A n xs ∧ (∀ a, A = some a → base ≤ a.block ∧ a.block < w.heap.size) := by
  rcases h.2 with ⟨rfl, rfl⟩ | ⟨g, cap, cur, rfl, hb, hg, hnc, hcm, hcs, htake⟩
  · exact ⟨none, 0, rfl, ⟨h.1, by omega, fun h => absurd h (by omega)⟩, by simp⟩
  · refine ⟨_, cap, rfl, ⟨h.1, by simp only [maxLen] at hcm; omega, fun _ => ⟨g, 0, rfl, fun i u hu => ?_⟩⟩, fun a ha => ?_⟩
    · have := h.cells (g := g) rfl i u hu
      have hadd : (⟨g, 0, none⟩ : Addr).add i = ⟨g, 0 + i, none⟩ := by unfold Addr.add; split <;> simp_all
      rwa [hadd] at this
    · cases ha
      exact ⟨hb, (Array.getElem?_eq_some_iff.1 hg).1⟩

/-- What a walk takes behind a call that leaves all that was there: old cells and old marks read as they did. -/
theorem kcell {W w1 : World} (hb : Kept [] W w1) : (∀ b o, b < W.heap.size → w1.cell? ⟨b, o, none⟩ = W.cell? ⟨b, o, none⟩) ∧ (∀ b o, b < W.heap.size → w1.frozen? ⟨b, o, none⟩ = W.frozen? ⟨b, o, none⟩) :=
  ⟨fun b o h => World.cell?_of_block (a := ⟨b, o, none⟩) (hb.block b h (by simp)), fun b o h => World.frozen?_of_block (a := ⟨b, o, none⟩) (hb.block b h (by simp))⟩

/-- Maps keyed by strings. -/
theorem str_keys {P : Program} {kt : TypeId} (hk : P.underlying kt = some .string) : KeyOps P kt Value.string where
  inj h := by injection h
  check w em k := MapKept.run_checkKey (k := .string k) hk trivial em 9999
  find w k es hes := by
    have hks : ∀ y ∈ es, IsKey .string y.key := fun y hy => by
      obtain ⟨k', h⟩ := hes y hy
      rw [h]
      trivial
    rcases findNow_spec (d := .string) (k := .string k) trivial es 0 hks with ⟨h1, h2⟩ | ⟨j, e0, h1, h2, h3⟩
    · exact Or.inl ⟨run_findKey hk h1, h2⟩
    · exact Or.inr ⟨j, e0, by simpa using run_findKey hk h1, h2, h3⟩
  stays w k := run_keyThatStays (d := .string) (k := .string k) trivial

/-! ### Whole structs -/
section
variable {P : Program} {ops : Array Oper} {rest : List Oper} {o : Oper} {a : Act} {w : World} {Q : Exit → Act → World → Prop}

theorem Kept.setRow {S : List Nat} {w0 w : World} (h : Kept S w0 w) {g : Nat} (hg : g ∈ S ∨ w0.heap.size ≤ g) (cs : Array Value) : Kept S w0 (w.setRow g cs) :=
  h.trans (T := [g]) ⟨rfl, rfl, rfl, by simp, fun k _ hn => setRow_other w g k cs (by simpa using hn)⟩ (fun x hx => by simp at hx; subst hx; exact hg)

/-- A struct read out of a row, at whatever place. -/
theorem run_load_struct {ty : TypeId} {d : TypeDesc} (hu : P.underlying ty = some d) (hd : (match d with | .struct _ | .array _ _ => true | _ => false) = true) {n : Nat} (hi : (P.info? ty).map (·.size) = some n)
    (b off : Nat) (cs : List Value) (hl : cs.length = n) (hc : ∀ j v, cs[j]? = some v → w.cell? ⟨b, off + j, none⟩ = some v) : (loadVar ty ⟨b, off, none⟩).run P w = .ok (.agg cs.toArray) w := by
  have hl' : (loadCells ⟨b, off, none⟩ cs.length).run P w = .ok cs.toArray w :=
    run_loadCells_list (P := P) w ⟨b, off, none⟩ cs (fun j v hv => by
      have hadd : (⟨b, off, none⟩ : Addr).add j = ⟨b, off + j, none⟩ := by unfold Addr.add; split <;> simp_all
      rw [hadd]
      exact hc j v hv)
  cases hq : P.info? ty with
  | none => simp [hq] at hi
  | some i =>
    have hs : i.size = n := by simpa [hq] using hi
    have hagg : (isAgg ty).run P w = .ok true w := by
      unfold isAgg
      rw [Sem.run_bind, run_underlying hu w]
      cases d <;> simp_all
    rw [hl] at hl'
    simp [loadVar, Sem.run_bind, hagg, sizeOf, typeInfo, hq, hs, hl']
theorem ow_load_struct {K : Act → World → Prop} (ty : TypeId) (x : Operand) (ho : o.op = .load ty x) {d : TypeDesc} (hu : P.underlying ty = some d) (hd : (match d with | .struct _ | .array _ _ => true | _ => false) = true) {n : Nat} (hi : (P.info? ty).map (·.size) = some n)
    (b off : Nat) (hx : a.eval x = .pointer (some ⟨b, off, none⟩)) (cs : List Value) (hl : cs.length = n) (hc : ∀ j v, cs[j]? = some v → w.cell? ⟨b, off + j, none⟩ = some v)
    (h : K (a.put o.dst (.agg cs.toArray)) w) : o.wp P a w K Q := by
  unfold Oper.wp execOp
  simp only [ho, hx, Instr.loadAt, Instr.sureAddr, Sem.run_bind, Sem.run_pure, Result.andThen_ok, run_load_struct hu hd hi b off cs hl hc]
  exact h
theorem wl_load_struct (hgd : o.guard = none) (ty : TypeId) (x : Operand) (ho : o.op = .load ty x) {d : TypeDesc} (hu : P.underlying ty = some d) (hd : (match d with | .struct _ | .array _ _ => true | _ => false) = true) {n : Nat} (hi : (P.info? ty).map (·.size) = some n)
    (b off : Nat) (hx : a.eval x = .pointer (some ⟨b, off, none⟩)) (cs : List Value) (hl : cs.length = n) (hc : ∀ j v, cs[j]? = some v → w.cell? ⟨b, off + j, none⟩ = some v)
    (h : wpList P ops Q rest (a.put o.dst (.agg cs.toArray)) w) : wpList P ops Q (o :: rest) a w :=
  wpList_plain hgd fun _ hK => ow_load_struct ty x ho hu hd hi b off hx cs hl hc (hK _ _ h)

/-- A struct laid into a block of its own. -/
theorem run_store_struct {ty : TypeId} {cs : Array Value} (hi : (P.info? ty).map (·.size) = some cs.size) (g : Nat) (T : TypeId) (old : Array Value) (hg : w.heap[g]? = some (.cells old T (0, 0))) (hos : old.size = cs.size) (h1 : cs.all (·.oneCell') = true) :
    (storeVar ty ⟨g, 0, none⟩ (.agg cs)).run P w = .ok () (w.setRow g cs) := by
  cases hq : P.info? ty with
  | none => simp [hq] at hi
  | some i =>
    have hs : i.size = cs.size := by simpa [hq] using hi
    have hst := run_storeCells_from (P := P) g T cs.toList 0 old w hg (by simp [hos]) (fun v hv => by
      have := Array.all_eq_true'.1 h1 v (by simpa using hv)
      exact this)
    simp only [List.take_zero, List.nil_append, Array.toArray_toList] at hst
    simp [storeVar, Sem.run_bind, sizeOf, typeInfo, hq, hs, Value.cells, hst]
theorem ow_store_struct {K : Act → World → Prop} (ty : TypeId) (x y : Operand) (ho : o.op = .store ty x y) {cs : Array Value} (hi : (P.info? ty).map (·.size) = some cs.size) (g : Nat) (hx : a.eval x = .pointer (some ⟨g, 0, none⟩)) (hy : a.eval y = .agg cs)
    (T : TypeId) (old : Array Value) (hg : w.heap[g]? = some (.cells old T (0, 0))) (hos : old.size = cs.size) (h1 : cs.all (·.oneCell') = true) (h : K (a.put o.dst undef) (w.setRow g cs)) : o.wp P a w K Q := by
  unfold Oper.wp execOp
  simp only [ho, hx, hy, Instr.storeAt, Instr.sureAddr, Sem.run_bind, Sem.run_pure, Result.andThen_ok, run_store_struct hi g T old hg hos h1]
  exact h
theorem wl_store_struct (hgd : o.guard = none) (ty : TypeId) (x y : Operand) (ho : o.op = .store ty x y) {cs : Array Value} (hi : (P.info? ty).map (·.size) = some cs.size) (g : Nat) (hx : a.eval x = .pointer (some ⟨g, 0, none⟩)) (hy : a.eval y = .agg cs)
    (T : TypeId) (old : Array Value) (hg : w.heap[g]? = some (.cells old T (0, 0))) (hos : old.size = cs.size) (h1 : cs.all (·.oneCell') = true) (h : wpList P ops Q rest (a.put o.dst undef) (w.setRow g cs)) : wpList P ops Q (o :: rest) a w :=
  wpList_plain hgd fun _ hK => ow_store_struct ty x y ho hi g hx hy T old hg hos h1 (hK _ _ h)
end

/-! ### append of a slice that is read, onto one of the call's own -/
section
variable {P : Program} {ops : Array Oper} {rest : List Oper} {o : Oper} {a : Act} {w : World} {Q : Exit → Act → World → Prop}

theorem run_append_sl (base : Nat) (t ty e : TypeId) {z : Value} {size bytes : Nat} (ht : P.underlying t = some (.slice e)) (hinfo : (P.info? e).map (fun i => (i.zero, i.size, i.bytes)) = some (some z, size, bytes)) (hzs : z.cells.size = size) (hsz : 0 < size)
    (v : Value) (n : Nat) (xs : List Value) (hown : w.ownsRow base e size v n xs) (A : Option Addr) (m c : Nat) (ys : List Value) (hA : SlIs w size A m ys) (h1 : ∀ u ∈ ys, u.oneCell' = true)
    (h63 : n + m ≤ 9223372036854775807) (hbytes : (n + m) * bytes ≤ 140737488355328) (hbase : base ≤ w.heap.size) :
    ∃ v' w', (Builtin.append_ #[t, t] ty #[v, .slice A m c]).run P w = .ok v' w' ∧ w'.ownsRow base e size v' (n + m) (xs ++ ys) ∧ Kept v.ownBlock.toList w w' ∧ (v'.ownBlock = v.ownBlock ∨ v'.ownBlock = some w.heap.size) := by
  obtain ⟨i, hi, hz0, hz1, hz2⟩ := info_parts hinfo
  rcases A with _ | ad
  · have hm : m = 0 := by
      rcases Nat.eq_zero_or_pos m with h | h
      · exact h
      · obtain ⟨b, off, h, _⟩ := hA.2.2 h
        cases h
    subst hm
    have hy : ys = [] := List.eq_nil_of_length_eq_zero (by simpa using hA.1)
    subst hy
    refine ⟨v, w, ?_, by simpa using hown, Kept.refl _ _, .inl rfl⟩
    rcases hown.2 with ⟨rfl, rfl⟩ | ⟨g, cap, cur, rfl, hbg, hg, hnc, hcm, hcs, htake⟩
    · simp [Builtin.append_, run_underlying ht, sizeOf, typeInfo, hi, Builtin.lenOf, Builtin.firstCells]
    · simp [Builtin.append_, run_underlying ht, sizeOf, typeInfo, hi, Builtin.lenOf, Builtin.firstCells, loadCells, hnc, storeCells]
  · have hnews : ∀ j u, ys[j]? = some u → w.cell? (ad.add j) = some u := by
      intro j u hu
      have hm : 0 < m := by
        rcases Nat.eq_zero_or_pos m with h | h
        · have := hA.1
          rw [h] at this
          have hy : ys = [] := List.eq_nil_of_length_eq_zero (by simpa using this)
          rw [hy] at hu
          simp at hu
        · exact h
      obtain ⟨b, off, h, hc⟩ := hA.2.2 hm
      cases h
      have hadd : (⟨b, off, none⟩ : Addr).add j = ⟨b, off + j, none⟩ := by unfold Addr.add; split <;> simp_all
      rw [hadd]
      exact hc j u hu
    obtain ⟨v', w', hr, h2, h3, _, h5⟩ := run_append_own_at (P := P) w base t ty e i z size bytes ht hi hz0 hz1 hz2 hzs hsz v n xs hown ad m c ys hA.1 hnews h1 (by simp only [maxLen]; omega) hbytes hbase
    exact ⟨v', w', hr, h2, Kept.of_grown h3, h5⟩
theorem ow_append {K : Act → World → Prop} (s x : Operand) (t : TypeId) (ho : o.op = .call { callee := .builtin .append, args := #[s, x], argTypes := #[t, t] })
    (base : Nat) (e : TypeId) {z : Value} {size bytes : Nat} (ht : P.underlying t = some (.slice e)) (hinfo : (P.info? e).map (fun i => (i.zero, i.size, i.bytes)) = some (some z, size, bytes)) (hzs : z.cells.size = size) (hsz : 0 < size)
    (v : Value) (n : Nat) (xs : List Value) (hs : a.eval s = v) (hown : w.ownsRow base e size v n xs) (A : Option Addr) (m c : Nat) (ys : List Value) (hx : a.eval x = .slice A m c) (hA : SlIs w size A m ys) (h1 : ∀ u ∈ ys, u.oneCell' = true)
    (h63 : n + m ≤ 9223372036854775807) (hbytes : (n + m) * bytes ≤ 140737488355328) (hbase : base ≤ w.heap.size)
    (h : ∀ v' w', w'.ownsRow base e size v' (n + m) (xs ++ ys) → Kept v.ownBlock.toList w w' → (v'.ownBlock = v.ownBlock ∨ v'.ownBlock = some w.heap.size) → K (a.put o.dst v') w') : o.wp P a w K Q := by
  obtain ⟨v', w', hr, h2, h3, h4⟩ := run_append_sl (P := P) base t o.type e ht hinfo hzs hsz v n xs hown A m c ys hA h1 h63 hbytes hbase
  unfold Oper.wp execOp
  simp only [ho, resolve, invoke, builtin, Sem.run_bind, Sem.run_pure, Result.andThen_ok, List.map_toArray, List.map_cons, List.map_nil, hs, hx, hr]
  exact h v' w' h2 h3 h4
theorem wl_append (hgd : o.guard = none) (s x : Operand) (t : TypeId) (ho : o.op = .call { callee := .builtin .append, args := #[s, x], argTypes := #[t, t] })
    (base : Nat) (e : TypeId) {z : Value} {size bytes : Nat} (ht : P.underlying t = some (.slice e)) (hinfo : (P.info? e).map (fun i => (i.zero, i.size, i.bytes)) = some (some z, size, bytes)) (hzs : z.cells.size = size) (hsz : 0 < size)
    (v : Value) (n : Nat) (xs : List Value) (hs : a.eval s = v) (hown : w.ownsRow base e size v n xs) (A : Option Addr) (m c : Nat) (ys : List Value) (hx : a.eval x = .slice A m c) (hA : SlIs w size A m ys) (h1 : ∀ u ∈ ys, u.oneCell' = true)
    (h63 : n + m ≤ 9223372036854775807) (hbytes : (n + m) * bytes ≤ 140737488355328) (hbase : base ≤ w.heap.size)
    (h : ∀ v' w', w'.ownsRow base e size v' (n + m) (xs ++ ys) → Kept v.ownBlock.toList w w' → (v'.ownBlock = v.ownBlock ∨ v'.ownBlock = some w.heap.size) → wpList P ops Q rest (a.put o.dst v') w') : wpList P ops Q (o :: rest) a w :=
  wpList_plain hgd fun _ hK => ow_append s x t ho base e ht hinfo hzs hsz v n xs hs hown A m c ys hx hA h1 h63 hbytes hbase (fun v' w' a1 a2 a3 => hK _ _ (h v' w' a1 a2 a3))
end
end Go.Proofs.YtghgffhcdnmpnaaGreat
