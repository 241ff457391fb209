/-
  Maps once more: m[k] = append(m[k], ..) with a key that is told once; an entry that is there written while the map is walked; delete. Conditions: none beyond each lemma's own.
-/
import Derived.Test.YtghgffhcdnmpnaaGreatZB0
import Derived.Test.YtghgffhcdnmpnaaGreatZN1
namespace Go.Proofs.YtghgffhcdnmpnaaGreat
open Go.RowKit Go.MapKept
section
variable {κ : Type} [DecidableEq κ] {enc : κ → Value} {P : Program} {kt : TypeId} {m : List (κ × Value)} {w : World} {b : Nat}
/-- A stamp of m's entry of k. -/
def StampOf (enc : κ → Value) (w : World) (b : Nat) (m : List (κ × Value)) (k : κ) (s : Int) : Prop :=
  ∃ (es : Array MapEntry) (clock j : Nat) (e : MapEntry), w.heap[b]? = some (.map es clock) ∧ Stamped es clock ∧ es.toList.map (fun e => (e.key, e.val)) = m.map (fun p => (enc p.1, p.2)) ∧ es[j]? = some e ∧ (m.map Prod.fst)[j]? = some k ∧ (e.born : Int) = s
omit [DecidableEq κ] in
theorem StampOf.map {k : κ} {s : Int} (h : StampOf enc w b m k s) : MapIs enc w b m := by
  obtain ⟨es, cl, j, e, hb, hs, he, _⟩ := h
  exact ⟨es, cl, hb, hs, he⟩
omit [DecidableEq κ] in
theorem StampOf.kept {S : List Nat} {w' : World} {k : κ} {s : Int} (h : StampOf enc w b m k s) (kp : Kept S w w') (hS : b ∉ S) : StampOf enc w' b m k s := by
  obtain ⟨es, cl, j, e, hb, r⟩ := h
  exact ⟨es, cl, j, e, kp.heap hb hS, r⟩
theorem keptSet {w : World} {b : Nat} (o : Obj) {x : Obj} (hb : w.heap[b]? = some x) : Kept [b] w { w with heap := w.heap.setIfInBounds b o } :=
  ⟨rfl, rfl, rfl, by simp, fun k _ hn => (heap_set hb).2 k (by simpa using hn)⟩
theorem MapIs.run_entry {t et : TypeId} (K : KeyOps P kt enc) (ht : P.underlying t = some (.map kt et)) (h : MapIs enc w b m) {z : Value} (hz : (zeroValue et).run P w = .ok z w) (k : κ) :
    ∃ w' s, (Instr.mapEntry t (.map (some b)) (enc k)).run P w = .ok (.tuple #[(mget m k).getD z, .int .i64 s]) w' ∧ StampOf enc w' b (mset m k ((mget m k).getD z)) k s ∧ Kept [b] w w' ∧ w'.heap.size = w.heap.size := by
  have hnm := h.nodup
  obtain ⟨es, cl, hb, hs, he⟩ := h
  rcases MapIs.find K hs.2.2 he w k with ⟨h1, h2, h3⟩ | ⟨j, e, h1, hj, h2, h3, h4⟩
  · refine ⟨_, (cl : Nat), by simp [Instr.mapEntry, run_underlying ht, MapKept.run_getObj_map hb, K.check w _ k, h2, hz, run_setObj_map _ hb, Result.andThen, h1]; exact ⟨rfl, rfl⟩, ?_, keptSet _ hb, by simp⟩
    have hsz : m.length = es.size := by have := congrArg List.length he; simpa using this.symm
    refine ⟨_, _, es.size, _, (heap_set hb).1, stamped_push hs h3, ?_, by simp; rfl, ?_, rfl⟩
    · simp [mset_new _ h1, he, h1]
    · rw [h1, mset_new _ h1, List.map_append, List.getElem?_append_right (by simp [hsz])]
      simp [hsz]
  · have hg : (((es[j]?).map (·.key)).getD (enc k)) = enc k := by rw [h3]; simp [h4]
    have hlt : j < es.size := (Array.getElem?_eq_some_iff.1 h3).1
    have hmj : m[j]? = some (k, e.val) := by
      rw [List.getElem?_map] at hj
      have hx : (es.toList.map (fun e => (e.key, e.val)))[j]? = some (e.key, e.val) := by rw [List.getElem?_map]; simp [h3]
      rw [he, List.getElem?_map] at hx
      cases hp : m[j]? with
      | none => rw [hp] at hj; cases hj
      | some p =>
        rw [hp] at hj hx
        have e1 : p.1 = k := by simpa using hj
        have e2 : (enc p.1, p.2) = (e.key, e.val) := by simpa using hx
        have e3 : p.2 = e.val := congrArg Prod.snd e2
        rw [← e1, ← e3]
    have hmm : mset m k e.val = m := by
      rw [mset_at e.val hnm hj]
      apply List.ext_getElem?
      intro i
      rw [List.getElem?_set]
      by_cases hij : j = i
      · subst hij
        have : j < m.length := (List.getElem?_eq_some_iff.1 hmj).1
        rw [← hmj, List.getElem?_eq_getElem this]
        simp [this]
      · simp [hij]
    refine ⟨{ w with heap := w.heap.setIfInBounds b (.map (es.modify j fun e => { e with key := enc k }) cl) }, (e.born : Nat), ?_, ?_, keptSet _ hb, by simp⟩
    · simp only [Instr.mapEntry, Sem.run_bind, run_underlying ht, MapKept.run_getObj_map hb, K.check w _ k, h2, hg, K.stays, run_setObj_map _ hb, Result.andThen, Sem.run_pure, h1, Option.getD_some]
      simp [h3, goInt]
    · rw [h1, Option.getD_some, hmm]
      refine ⟨_, _, j, { e with key := enc k }, (heap_set hb).1, stamped_modify hs j _ (fun _ _ => rfl) (fun e' _ he' => by rw [h3] at he'; cases he'; exact h4.symm), ?_, by rw [Array.getElem?_modify]; simp [h3], hj, rfl⟩
      rw [← he]
      apply List.ext_getElem?
      intro i
      simp only [List.getElem?_map, Array.getElem?_toList, Array.getElem?_modify]
      by_cases hij : j = i
      · subst hij
        simp [h3, h4]
      · simp [hij]
theorem StampOf.run_store {t : TypeId} {k : κ} {s : Int} (h : StampOf enc w b m k s) (v : Value) :
    ∃ w', (Instr.entryStore t (.map (some b)) (.int .i64 s) v).run P w = .ok () w' ∧ MapIs enc w' b (mset m k v) ∧ Kept [b] w w' ∧ w'.heap.size = w.heap.size := by
  have hnm := h.map.nodup
  obtain ⟨es, cl, j, e, hb, hs, he, hj, hk, rfl⟩ := h
  have hlt : j < es.size := (Array.getElem?_eq_some_iff.1 hj).1
  have hbn := hs.2.1
  have hidx : es.findIdx? (fun x => (x.born : Int) == (e.born : Int)) = some j := by
    rw [Array.findIdx?_eq_some_iff_getElem]
    refine ⟨hlt, ?_, ?_⟩
    · have : es[j] = e := (Array.getElem?_eq_some_iff.1 hj).2
      simp [this]
    · intro i hij
      have hn := List.pairwise_iff_getElem.1 hbn
      have h1 := hn i j (by simp; omega) (by simpa using hlt) hij
      have : es[j] = e := (Array.getElem?_eq_some_iff.1 hj).2
      simp only [List.getElem_map, Array.getElem_toList, this] at h1
      simp only [beq_iff_eq, Int.natCast_inj]
      simpa using h1
  refine ⟨{ w with heap := w.heap.setIfInBounds b (.map (es.modify j fun e => { e with val := v }) cl) }, ?_, ?_, keptSet _ hb, by simp⟩
  · simp only [Instr.entryStore, Sem.run_bind, MapKept.run_getObj_map hb, Result.andThen]
    simp [asInt, asIntOf, hidx, run_setObj_map _ hb]
  · refine ⟨_, _, (heap_set hb).1, stamped_modify hs j _ (fun _ _ => rfl) (fun _ _ _ => rfl), ?_⟩
    rw [mset_at v hnm hk, List.map_set, ← he]
    have hek : e.key = enc k := by
      have hx : (es.toList.map (fun e => (e.key, e.val)))[j]? = some (e.key, e.val) := by rw [List.getElem?_map]; simp [hj]
      rw [he, List.getElem?_map] at hx
      rw [List.getElem?_map] at hk
      cases hp : m[j]? with
      | none => rw [hp] at hk; cases hk
      | some p =>
        rw [hp] at hk hx
        have e1 : p.1 = k := by simpa using hk
        have e2 : (enc p.1, p.2) = (e.key, e.val) := by simpa using hx
        rw [← e1]
        exact (congrArg Prod.fst e2).symm
    apply List.ext_getElem?
    intro i
    simp only [List.getElem?_map, Array.getElem?_toList, Array.getElem?_modify, List.getElem?_set, List.length_map, Array.length_toList]
    by_cases hij : j = i
    · subst hij
      have : es[j] = e := (Array.getElem?_eq_some_iff.1 hj).2
      simp [hlt, hek, this]
    · simp [hij]
theorem IterIs.run_update {t et : TypeId} {r : Nat} {done : List Nat} (K : KeyOps P kt enc) (ht : P.underlying t = some (.map kt et)) (h : IterIs enc w r b m done) (k : κ) (hk : k ∈ m.map Prod.fst) (v : Value) :
    ∃ w', (Instr.mapUpdate t (.map (some b)) (enc k) v).run P w = .ok () w' ∧ IterIs enc w' r b (mset m k v) done ∧ Kept [b] w w' ∧ w'.heap.size = w.heap.size := by
  have hnm := h.map.nodup
  obtain ⟨hrb, hnd, hlt, es, cl, seen, c0, hb, hs, he, hr, hc, hc0, hseen⟩ := h
  rcases MapIs.find K hs.2.2 he w k with ⟨h1, h2, h3⟩ | ⟨j, e, h1, hj, h2, h3, h4⟩
  · exact absurd hk (mget_none_iff.1 h1)
  · have hg : (((es[j]?).map (·.key)).getD (enc k)) = enc k := by rw [h3]; simp [h4]
    have hl : (mset m k v).length = m.length := by rw [mset_at v hnm hj, List.length_set]
    refine ⟨{ w with heap := w.heap.setIfInBounds b (.map (es.modify j fun e => { e with key := enc k, val := v }) cl) }, by simp only [Instr.mapUpdate, Sem.run_bind, run_underlying ht, MapKept.run_getObj_map hb, K.check w _ k, h2, hg, K.stays, run_setObj_map _ hb, Result.andThen], ?_, keptSet _ hb, by simp⟩
    refine ⟨hrb, hnd, by rw [hl]; exact hlt, _, cl, seen, c0, (heap_set hb).1, stamped_modify hs j _ (fun _ _ => rfl) (fun e' _ he' => by rw [h3] at he'; cases he'; exact h4.symm), ?_, ?_, hc, hc0, ?_⟩
    · rw [mset_at v hnm hj, List.map_set, ← he]
      apply List.ext_getElem?
      intro i
      simp only [List.getElem?_map, Array.getElem?_toList, Array.getElem?_modify, List.getElem?_set, List.length_map, Array.length_toList]
      have hlt : j < es.size := (Array.getElem?_eq_some_iff.1 h3).1
      by_cases hij : j = i
      · subst hij
        simp [hlt]
      · simp [hij]
    · rw [← hr]; exact (heap_set hb).2 r hrb
    · rw [hseen]
      refine List.map_congr_left fun i _ => ?_
      rw [Array.getElem?_modify]
      by_cases hij : j = i
      · subst hij
        simp [h3]
      · simp [hij]
theorem map_eraseIdx' {α β : Type} (f : α → β) : ∀ (l : List α) (i : Nat), (l.eraseIdx i).map f = (l.map f).eraseIdx i
  | [], _ => rfl
  | _ :: _, 0 => rfl
  | x :: l, i + 1 => by simp [map_eraseIdx' f l i]
omit [DecidableEq κ] in
theorem filter_eraseIdx [DecidableEq κ] : ∀ {m : List (κ × Value)} {k : κ} {j : Nat}, (m.map Prod.fst).Nodup → (m.map Prod.fst)[j]? = some k → m.filter (fun p => decide (p.1 ≠ k)) = m.eraseIdx j
  | [], k, j, _, h => by simp at h
  | p :: r, k, 0, hn, h => by
    have hn' := List.nodup_cons.1 (show (p.1 :: r.map Prod.fst).Nodup from hn)
    have hp : p.1 = k := by simpa using h
    rw [List.filter_cons_of_neg (by simp [hp]), List.eraseIdx_cons_zero, List.filter_eq_self.2]
    intro q hq
    simp only [decide_eq_true_eq]
    intro e
    exact hn'.1 (by rw [hp, ← e]; exact List.mem_map.2 ⟨q, hq, rfl⟩)
  | p :: r, k, j + 1, hn, h => by
    have hn' := List.nodup_cons.1 (show (p.1 :: r.map Prod.fst).Nodup from hn)
    have h' : (r.map Prod.fst)[j]? = some k := by simpa using h
    have hp : p.1 ≠ k := fun e => hn'.1 (by rw [e]; exact List.mem_of_getElem? h')
    rw [List.filter_cons_of_pos (by simpa using hp), List.eraseIdx_cons_succ, filter_eraseIdx hn'.2 h']
/-- delete(m, k), in the list. -/
theorem MapIs.run_delete {t et : TypeId} (K : KeyOps P kt enc) (ht : P.underlying t = some (.map kt et)) (h : MapIs enc w b m) (k : κ) (ty : TypeId) :
    ∃ w', (Builtin.delete_ #[t, kt] ty #[.map (some b), enc k]).run P w = .ok (.tuple #[]) w' ∧ MapIs enc w' b (m.filter fun p => decide (p.1 ≠ k)) ∧ Kept [b] w w' ∧ w'.heap.size = w.heap.size := by
  have hnm := h.nodup
  obtain ⟨es, cl, hb, hs, he⟩ := h
  rcases MapIs.find K hs.2.2 he w k with ⟨h1, h2, h3⟩ | ⟨j, e, h1, hj, h2, h3, h4⟩
  · refine ⟨_, by simp [Builtin.delete_, run_underlying ht, MapKept.run_getObj_map hb, K.check w _ k, h2, run_setObj_map _ hb, Result.andThen], ⟨_, _, (heap_set hb).1, hs, ?_⟩, keptSet _ hb, by simp⟩
    rw [List.filter_eq_self.2]
    · exact he
    · intro p hp
      have := mget_none_iff.1 h1
      simp only [decide_eq_true_eq]
      rintro rfl
      exact this (List.mem_map.2 ⟨p, hp, rfl⟩)
  · have hlt : j < es.size := (Array.getElem?_eq_some_iff.1 h3).1
    refine ⟨{ w with heap := w.heap.setIfInBounds b (.map (es.eraseIdxIfInBounds j) cl) }, by simp [Builtin.delete_, run_underlying ht, MapKept.run_getObj_map hb, K.check w _ k, h2, run_setObj_map _ hb, Result.andThen], ⟨_, _, (heap_set hb).1, stamped_erase hs j, ?_⟩, keptSet _ hb, by simp⟩
    have h5 : m.filter (fun p => decide (p.1 ≠ k)) = m.eraseIdx j := filter_eraseIdx hnm hj
    rw [h5, Array.eraseIdxIfInBounds, dif_pos hlt, Array.toList_eraseIdx, map_eraseIdx', he, ← map_eraseIdx']
end
section
variable {κ : Type} [DecidableEq κ] {enc : κ → Value} {w : World} {P : Program} {kt : TypeId} {ops : Array Oper} {rest : List Oper} {o : Oper} {a : Act} {Q : Exit → Act → World → Prop}
theorem wl_mentry (hg : o.guard = none) (mo x : Operand) (t : TypeId) (hop : o.op = Op.mapEntry t mo x) (et : TypeId) (ht : P.underlying t = some (.map kt et)) (K : KeyOps P kt enc) (z : Value) (hz : (zeroValue et).run P w = .ok z w)
    (b : Nat) (m : List (κ × Value)) (hm : a.eval mo = .map (some b)) (hM : MapIs enc w b m) (k : κ) (hx : a.eval x = enc k)
    (hK : ∀ w' s, StampOf enc w' b (mset m k ((mget m k).getD z)) k s → Kept [b] w w' → w'.heap.size = w.heap.size → wpList P ops Q rest (a.put o.dst (.tuple #[(mget m k).getD z, .int .i64 s])) w') : wpList P ops Q (o :: rest) a w := by
  obtain ⟨w', s, hrun, h1, h2, h3⟩ := hM.run_entry K ht hz k
  refine wpList_plain hg fun K' hK' => ?_
  unfold Oper.wp
  simp [execOp, hop, hm, hx, hrun, Result.andThen]
  exact hK' _ _ (hK w' s h1 h2 h3)
theorem wl_estore (hg : o.guard = none) (mo so vo : Operand) (t : TypeId) (hop : o.op = Op.entryStore t mo so vo)
    (b : Nat) (m : List (κ × Value)) (k : κ) (s : Int) (hm : a.eval mo = .map (some b)) (hM : StampOf enc w b m k s) (hs : a.eval so = .int .i64 s) (v : Value) (hv : a.eval vo = v)
    (hK : ∀ w', MapIs enc w' b (mset m k v) → Kept [b] w w' → w'.heap.size = w.heap.size → wpList P ops Q rest (a.put o.dst undef) w') : wpList P ops Q (o :: rest) a w := by
  obtain ⟨w', hrun, h1, h2, h3⟩ := hM.run_store (P := P) (t := t) v
  refine wpList_plain hg fun K' hK' => ?_
  unfold Oper.wp
  simp [execOp, hop, hm, hs, hv, hrun, Result.andThen]
  exact hK' _ _ (hK w' h1 h2 h3)
theorem wl_update_iter (hg : o.guard = none) (mo x vo : Operand) (t : TypeId) (hop : o.op = Op.mapUpdate t mo x vo) (et : TypeId) (ht : P.underlying t = some (.map kt et)) (K : KeyOps P kt enc)
    (r b : Nat) (m : List (κ × Value)) (done : List Nat) (hm : a.eval mo = .map (some b)) (hM : IterIs enc w r b m done) (k : κ) (hk : k ∈ m.map Prod.fst) (hx : a.eval x = enc k) (v : Value) (hv : a.eval vo = v)
    (hK : ∀ w', IterIs enc w' r b (mset m k v) done → Kept [b] w w' → w'.heap.size = w.heap.size → wpList P ops Q rest (a.put o.dst undef) w') : wpList P ops Q (o :: rest) a w := by
  obtain ⟨w', hrun, h1, h2, h3⟩ := hM.run_update K ht k hk v
  refine wpList_plain hg fun K' hK' => ?_
  unfold Oper.wp
  simp [execOp, hop, hm, hx, hv, hrun, Result.andThen]
  exact hK' _ _ (hK w' h1 h2 h3)
end
end Go.Proofs.YtghgffhcdnmpnaaGreat
/-
  Whether a pair of topic and partition is in a slice (242, 238, 232). Conditions: the slice can be read.
-/
namespace Go.Proofs.YtghgffhcdnmpnaaGreat
open Go.RowKit Go.Sort
theorem tp_get {l : List (ByteArray × Int)} {j : Nat} {y : ByteArray × Int} (h : l[j]? = some y) : ∀ a v, (tpCells y)[a]? = some v → (l.flatMap tpCells)[j * 2 + a]? = some v := by
  intro a v hv
  have ha : a < 2 := by have := (List.getElem?_eq_some_iff.1 hv).1; simpa [tpCells] using this
  rw [flat_get tpCells 2 tp_len (by decide) l j a ha, h]
  exact hv
theorem sl_tp {w : World} {A : Option Addr} {n : Nat} {l : List (ByteArray × Int)} (h : SlIs w 2 A n (l.flatMap tpCells)) : n = l.length := by
  have := h.1
  rw [flat_len tpCells 2 tp_len] at this
  omega
def ix242F (b off _bx n c j : Nat) (x y : ByteArray × Int) (ix : Nat) (v : Value) (_ : World) : Prop :=
  match ix with
  | 0 => v = tpEnc x
  | 1 => v = .slice (some ⟨b, off, none⟩) n c
  | 2 => v = .int .i64 j
  | 3 => v = .pointer (some ⟨b, off + j * 2, none⟩)
  | 4 => v = tpEnc y
  | 5 => v = .bool (decide (x = y))
  | _ => True
theorem ix242F_stable {b off bx n c j x y} : ∀ ix v w w', ix242F b off bx n c j x y ix v w → Kept [] w w' → ix242F b off bx n c j x y ix v w' := by
  intro ix v w w' h k
  unfold ix242F at h ⊢
  split at h <;> (first | (exact h))
set_option maxRecDepth 100000 in
set_option maxHeartbeats 1600000 in
theorem index_any (A : Option Addr) (n c : Nat) (l : List (ByteArray × Int)) (x : ByteArray × Int) (w : World) (h : SlIs w 2 A n (l.flatMap tpCells)) :
    Calls Tryz.prog 242 #[.slice A n c, tpEnc x] w fun e w' => ∃ r : Int, e = .returned (.int .i64 r) ∧ (decide (0 ≤ r) = decide (x ∈ l)) ∧ Kept [] w w' := by
  have hnl := sl_tp h
  have hn63 := h.2.1
  have HNL := Lib.hid hnl
  have HSL := Lib.hid h
  obtain ⟨bx, hbx⟩ : ∃ bx, w.heap.size = bx := ⟨_, rfl⟩
  have HBB := Lib.hid hbx
  clear h hnl hbx
  go_enter Tryz.func242, Tryz.ntmps242
  go_wp2
  rw [HBB.out]
  obtain ⟨w0, hw0⟩ : ∃ w0, w.alloc (Obj.cells #[.string x.1, .int .i32 x.2] 268) = w0 := ⟨_, rfl⟩
  rw [hw0]
  have HK0 : Hid (Kept [] w w0) := by rw [← hw0]; exact (Kept.refl _ _).alloc _
  have HB0 : Hid (∀ a v, [Value.string x.1, .int .i32 x.2][a]? = some v → w0.cell? ⟨bx, 0 + a, none⟩ = some v) := fun a v hv => by
    rw [Nat.zero_add, ← hw0, ← HBB.out, cell_alloc_at]
    simpa using hv
  clear hw0
  go_loopg [8] n (fun k v wr => ∃ j, k = n - j ∧ j ≤ n ∧ v = .int .i64 j ∧ (∀ i, i < j → l[i]? ≠ some x) ∧ Kept [] w0 wr)
  case atStart => exact ⟨0, rfl, Nat.zero_le _, rfl, fun i hi => absurd hi (by omega), Kept.refl _ _⟩
  case round =>
    obtain ⟨j, hk, hj, rfl, hno, hkr⟩ := hrel
    have HNO := Lib.hid hno
    have HKR := Lib.hid hkr
    clear hno hkr
    by_cases hlt : j < n
    · have hlt' : (j : Int) < (n : Int) := by omega
      obtain ⟨b, off, rfl, hcc⟩ := HSL.out.2.2 (by omega)
      obtain ⟨y, hy⟩ : ∃ y, l[j]? = some y := ⟨_, List.getElem?_eq_getElem (by have := HNL.out; omega)⟩
      have HY := Lib.hid hy
      have HBX : Hid (∀ a v, [Value.string x.1, .int .i32 x.2][a]? = some v → wr.cell? ⟨bx, 0 + a, none⟩ = some v) := fun a v hv => HKR.out.cell (HB0.out a v hv) (by simp)
      have HCY : Hid (∀ a v, [Value.string y.1, .int .i32 y.2][a]? = some v → wr.cell? ⟨b, off + j * 2 + a, none⟩ = some v) := fun a v hv => by
        have := (HK0.out.trans0 HKR.out).cell (hcc (j * 2 + a) v (tp_get HY.out a v hv)) (by simp)
        rwa [← Nat.add_assoc] at this
      clear hcc hy
      go_wp2
      refine wp_region_facts' 5 (Kept []) (ix242F b off bx n c j x y) mixed (by kernel_rfl) ((Kept.refl _ _).drew) (fun _ _ _ h k => h.trans0 k) ix242F_stable ?_ ?_
      · refine ⟨?_, ?_, ?_, ?_, ?_, trivial⟩
        all_goals go_light
        all_goals intro a W hR hs hd
        all_goals have p0 : a.tmps[0]? = some (.slice (some ⟨b, off, none⟩) n c) := hs.2.2 0 (by decide)
        all_goals have p3 : a.tmps[3]? = some (.pointer (some ⟨bx, 0, none⟩)) := hs.2.2 3 (by decide)
        all_goals have p5 : a.tmps[5]? = some (.int .i64 j) := hs.2.2 5 (by decide)
        all_goals have hRr : Kept [] W W := Kept.refl [] W
        all_goals have hadd : (⟨b, off, none⟩ : Addr).add (j * 2) = ⟨b, off + j * 2, none⟩ := by unfold Addr.add; split <;> simp_all
        · refine ow_load_struct 268 _ rfl Tryz.underlying268 rfl rfl bx (0) (by simp [go_sem, p3]) [.string x.1, .int .i32 x.2] rfl (fun a v hv => hR.cell (HBX.out a v hv) (by simp)) ?_
          exact .mk hRr rfl rfl
        · refine ow_value (w' := W) (v := .slice (some ⟨b, off, none⟩) n c) ?_ (.mk hRr rfl rfl)
          simp [go_sem, p0]
        · refine ow_value (w' := W) (v := .int .i64 j) ?_ (.mk hRr rfl rfl)
          simp [go_sem, p5]
        · have q1 : _ = _ := hd.1 rfl
          have q2 : _ = _ := hd.2.1 rfl
          refine ow_value (w' := W) (v := .pointer (some ⟨b, off + j * 2, none⟩)) ?_ (.mk hRr rfl rfl)
          simp [go_sem, q1, q2, hlt]
        · have q3 : _ = _ := hd.1 rfl
          refine ow_load_struct 268 _ rfl Tryz.underlying268 rfl rfl b (off + j * 2) (by simp [go_sem, q3]) [.string y.1, .int .i32 y.2] rfl (fun a v hv => hR.cell (HCY.out a v hv) (by simp)) ?_
          exact .mk hRr rfl rfl
      · intro f W hR hf
        obtain ⟨f0, f1, f2, f3, f4, -⟩ := hf
        change f 11 = _ at f0
        change f 12 = _ at f1
        change f 13 = _ at f2
        change f 14 = _ at f3
        change f 15 = _ at f4
        simp only [headDsts, List.take_succ_cons, List.take_zero, List.filterMap_cons, List.filterMap_nil, setAll, f0, f1, f2, f3, f4, List.setIfInBounds_toArray, List.set_cons_succ, List.set_cons_zero, List.drop_succ_cons, List.drop_zero]
        clear f0 f1 f2 f3 f4 f
        have HR := Lib.hid (HKR.out.trans0 hR)
        clear hR
        by_cases hxy : x = y
        · have hd1 : x.1.toList = y.1.toList := by rw [hxy]
          have hd2 : x.2 = y.2 := by rw [hxy]
          have HXY := Lib.hid hxy
          clear hxy
          go_wp2
          go_ret
          refine ⟨j, rfl, ?_, HK0.out.trans0 HR.out⟩
          have : x ∈ l := by rw [HXY.out]; exact List.mem_of_getElem? HY.out
          simp [this]
        · have HXY := Lib.hid hxy
          have HREL : Hid (∀ i, i < j + 1 → l[i]? ≠ some x) := fun i hi => by
            rcases Nat.lt_or_ge i j with h | h
            · exact HNO.out i h
            · obtain rfl : i = j := by omega
              rw [HY.out]
              exact fun e => HXY.out (Option.some.inj e).symm
          by_cases hd1 : x.1.toList = y.1.toList
          · have hd2 : ¬ x.2 = y.2 := fun e => hxy (Prod.ext (by rw [ByteArray.toList_eq, ByteArray.toList_eq] at hd1; exact ByteArray.ext (Array.toList_inj.1 hd1)) e)
            clear hxy
            go_wp2
            go_roundg (n - (j + 1))
            case measure => omega
            case rel => exact ⟨j + 1, rfl, by omega, rfl, HREL.out, HR.out⟩
          · clear hxy
            go_wp2
            go_roundg (n - (j + 1))
            case measure => omega
            case rel => exact ⟨j + 1, rfl, by omega, rfl, HREL.out, HR.out⟩
    · obtain rfl : j = n := by omega
      have hlt' : ¬ (j : Int) < (j : Int) := by omega
      go_wp2
      go_ret
      refine ⟨-1, rfl, ?_, HK0.out.trans0 HKR.out⟩
      have : x ∉ l := fun hm => by
        obtain ⟨i, hi⟩ := List.getElem?_of_mem hm
        exact HNO.out i (by have := (List.getElem?_eq_some_iff.1 hi).1; have := HNL.out; omega) hi
      simp [this]
set_option maxRecDepth 100000 in
set_option maxHeartbeats 1600000 in
theorem contains_any (A : Option Addr) (n c : Nat) (l : List (ByteArray × Int)) (x : ByteArray × Int) (w : World) (h : SlIs w 2 A n (l.flatMap tpCells)) :
    Calls Tryz.prog 238 #[.slice A n c, tpEnc x] w fun e w' => e = .returned (.bool (decide (x ∈ l))) ∧ Kept [] w w' := by
  have HC : Hid (∀ W, Kept [] w W → Calls Tryz.prog 242 #[.slice A n c, tpEnc x] W fun e w' => ∃ r : Int, e = .returned (.int .i64 r) ∧ (decide (0 ≤ r) = decide (x ∈ l)) ∧ Kept [] W w') := fun W hW => index_any A n c l x W (h.kept0 hW)
  obtain ⟨bx, hbx⟩ : ∃ bx, w.heap.size = bx := ⟨_, rfl⟩
  have HBB := Lib.hid hbx
  clear h hbx
  go_enter Tryz.func238, Tryz.ntmps238
  go_wp2_with (first
    | (refine wl_load_struct rfl 268 _ rfl Tryz.underlying268 rfl rfl w.heap.size 0 rfl [.string x.1, .int .i32 x.2] rfl (fun a v hv => by rw [Nat.zero_add, cell_alloc_at]; simpa using hv) ?_)
    | ((with_reducible refine (HC.out _ ((Kept.refl _ _).alloc _)).mono ?_); rintro e w1 ⟨r, rfl, hr, hk⟩; have HR := Lib.hid hr; have HK := Lib.hid hk; clear hr hk))
  go_ret
  exact ⟨by rw [← HR.out]; rfl, ((Kept.refl _ _).alloc _).trans0 HK.out⟩
set_option maxRecDepth 100000 in
set_option maxHeartbeats 1600000 in
theorem includes_any (A : Option Addr) (n c : Nat) (l : List (ByteArray × Int)) (x : ByteArray × Int) (w : World) (h : SlIs w 2 A n (l.flatMap tpCells)) :
    Calls Tryz.prog 232 #[.slice A n c, tpEnc x] w fun e w' => e = .returned (.bool (decide (x ∈ l))) ∧ Kept [] w w' := by
  have HC : Hid (∀ W, Kept [] w W → Calls Tryz.prog 238 #[.slice A n c, tpEnc x] W fun e w' => e = .returned (.bool (decide (x ∈ l))) ∧ Kept [] W w') := fun W hW => contains_any A n c l x W (h.kept0 hW)
  clear h
  go_enter Tryz.func232, Tryz.ntmps232
  go_wp2_with (first
    | (refine wl_load_struct rfl 268 _ rfl Tryz.underlying268 rfl rfl w.heap.size 0 rfl [.string x.1, .int .i32 x.2] rfl (fun a v hv => by rw [Nat.zero_add, cell_alloc_at]; simpa using hv) ?_)
    | ((with_reducible refine (HC.out _ ((Kept.refl _ _).alloc _)).mono ?_); rintro e w1 ⟨rfl, hk⟩; have HK := Lib.hid hk; clear hk))
  go_ret
  exact ⟨rfl, ((Kept.refl _ _).alloc _).trans0 HK.out⟩
end Go.Proofs.YtghgffhcdnmpnaaGreat
/-
  The sticky strategies' maps: who has which pairs (each list a row of its own), who could have which (lists that are read); how many could have a pair (213). Conditions: none beyond each lemma's own.
-/
namespace Go.Proofs.YtghgffhcdnmpnaaGreat
open Go.RowKit Go.Sort
/-- A topic and a partition. -/
abbrev TP := ByteArray × Int
/-- A map of names to pairs that can be read. -/
def CpAt (w : World) (X : Nat → Prop) (b : Nat) (l : List (ByteArray × List TP)) : Prop :=
  X b ∧ ∃ m : List (ByteArray × Value × List TP), MapIs Value.string w b (m.map fun e => (e.1, e.2.1)) ∧ m.map (fun e => (e.1, e.2.2)) = l ∧ ∀ e ∈ m, SlAt w (fun x => X x ∧ x ≠ b) 2 e.2.1 (e.2.2.flatMap tpCells)
theorem CpAt.kept {S : List Nat} {w w' : World} {X : Nat → Prop} {b : Nat} {l : List (ByteArray × List TP)} (h : CpAt w X b l) (k : Kept S w w') (hS : ∀ x, X x → x ∉ S) : CpAt w' X b l := by
  obtain ⟨h0, m, h1, h2, h3⟩ := h
  exact ⟨h0, m, h1.kept k (hS _ h0), h2, fun e he => (h3 e he).kept k (fun x hx => hS x hx.1)⟩
/-- The entry of a name. -/
theorem CpAt.get {w : World} {X : Nat → Prop} {b : Nat} {l : List (ByteArray × List TP)} (h : CpAt w X b l) {k : ByteArray} {q : List TP} (hk : (k, q) ∈ l) :
    ∃ m A c, MapIs Value.string w b m ∧ m.map Prod.fst = l.map Prod.fst ∧ mget m k = some (.slice A q.length c) ∧ SlIs w 2 A q.length (q.flatMap tpCells) := by
  obtain ⟨h0, m, h1, rfl, h3⟩ := h
  obtain ⟨e, he, heq⟩ := List.mem_map.1 hk
  obtain ⟨k', v, q'⟩ := e
  simp only [Prod.mk.injEq] at heq
  obtain ⟨rfl, rfl⟩ := heq
  obtain ⟨A, n, c, hv, hs, _⟩ := h3 _ he
  simp only at hv hs
  obtain rfl := sl_tp hs
  refine ⟨_, A, c, h1, by simp [List.map_map, Function.comp_def], ?_, hs⟩
  rw [← hv]
  exact mget_of_mem h1.nodup (List.mem_map.2 ⟨_, he, rfl⟩)
/-- A map of names to rows of pairs, each of its own, from base on. -/
def AsgIs (w : World) (base b : Nat) (L : List (ByteArray × List TP)) : Prop :=
  ∃ m : List (ByteArray × Value × List TP), MapIs Value.string w b (m.map fun e => (e.1, e.2.1)) ∧ m.map (fun e => (e.1, e.2.2)) = L ∧
    (∀ e ∈ m, w.ownsRow base 268 2 e.2.1 e.2.2.length (e.2.2.flatMap tpCells)) ∧ m.Pairwise (fun e f => ∀ g, e.2.1.ownBlock = some g → f.2.1.ownBlock ≠ some g)
/-- The blocks of the rows. -/
theorem AsgIs.kept {S : List Nat} {w w' : World} {base b : Nat} {L : List (ByteArray × List TP)} (h : AsgIs w base b L) (k : Kept S w w') (hb : b ∉ S) (hS : ∀ x ∈ S, x < base) : AsgIs w' base b L := by
  obtain ⟨m, h1, h2, h3, h4⟩ := h
  exact ⟨m, h1.kept k hb, h2, fun e he => k.own (h3 e he) (fun g hg hm => by have := own_ge (h3 e he) g hg; have := hS g hm; omega), h4⟩
theorem AsgIs.kept0 {w w' : World} {base b : Nat} {L : List (ByteArray × List TP)} (h : AsgIs w base b L) (k : Kept [] w w') : AsgIs w' base b L := h.kept k (by simp) (by simp)
theorem AsgIs.nodup {w : World} {base b : Nat} {L : List (ByteArray × List TP)} (h : AsgIs w base b L) : (L.map Prod.fst).Nodup := by
  obtain ⟨m, h1, rfl, _⟩ := h
  have := h1.nodup
  simpa [List.map_map, Function.comp_def] using this
theorem AsgIs.lt {w : World} {base b : Nat} {L : List (ByteArray × List TP)} (h : AsgIs w base b L) : b < w.heap.size := by
  obtain ⟨m, h1, _⟩ := h
  exact h1.lt
/-- How many a name has. -/
def szOf (L : List (ByteArray × List TP)) (k : ByteArray) : Nat := ((L.find? fun e => e.1 == k).map fun e => e.2.length).getD 0
theorem szOf_mem : ∀ {L : List (ByteArray × List TP)}, (L.map Prod.fst).Nodup → ∀ {k q}, (k, q) ∈ L → szOf L k = q.length
  | [], _, k, q, h => by cases h
  | e :: L, hn, k, q, h => by
    have hn' := List.nodup_cons.1 (show (e.1 :: L.map Prod.fst).Nodup from hn)
    rcases List.mem_cons.1 h with rfl | h
    · simp [szOf]
    · have : e.1 ≠ k := fun he => hn'.1 (by rw [he]; exact List.mem_map.2 ⟨(k, q), h, rfl⟩)
      have ih := szOf_mem hn'.2 h
      simp only [szOf, List.find?_cons] at ih ⊢
      rw [show (e.1 == k) = false by simpa using this]
      exact ih
/-- What the map has for a name. -/
theorem AsgIs.get {w : World} {base b : Nat} {L : List (ByteArray × List TP)} (h : AsgIs w base b L) {k : ByteArray} {q : List TP} (hk : (k, q) ∈ L) :
    ∃ m v, MapIs Value.string w b m ∧ m.map Prod.fst = L.map Prod.fst ∧ mget m k = some v ∧ w.ownsRow base 268 2 v q.length (q.flatMap tpCells) := by
  obtain ⟨m, h1, rfl, h3, h4⟩ := h
  obtain ⟨e, he, heq⟩ := List.mem_map.1 hk
  obtain ⟨k', v, q'⟩ := e
  simp only [Prod.mk.injEq] at heq
  obtain ⟨rfl, rfl⟩ := heq
  exact ⟨_, v, h1, by simp [List.map_map, Function.comp_def], mget_of_mem h1.nodup (List.mem_map.2 ⟨_, he, rfl⟩), h3 _ he⟩
/-- All names have lists of their sizes. -/
theorem AsgIs.sized {w : World} {base b : Nat} {L : List (ByteArray × List TP)} (h : AsgIs w base b L) (hl : ∀ e ∈ L, e.2.length ≤ 1000000000) :
    ∃ m, MapIs Value.string w b m ∧ m.map Prod.fst = L.map Prod.fst ∧ Sized m (szOf L) (m.map Prod.fst) ∧ m.length = L.length := by
  have hn := h.nodup
  obtain ⟨m, h1, rfl, h3, h4⟩ := h
  refine ⟨_, h1, by simp [List.map_map, Function.comp_def], fun k hk => ?_, by simp⟩
  rw [List.map_map] at hk
  obtain ⟨e, he, rfl⟩ := List.mem_map.1 hk
  obtain ⟨A, c, hv⟩ := own_form (h3 e he)
  have hs : szOf (m.map fun e => (e.1, e.2.2)) e.1 = e.2.2.length := szOf_mem hn (List.mem_map.2 ⟨e, he, rfl⟩)
  refine ⟨A, c, ?_, ?_⟩
  · simp only [Function.comp_def]
    rw [hs, ← hv]
    exact mget_of_mem h1.nodup (List.mem_map.2 ⟨e, he, rfl⟩)
  · simp only [Function.comp_def]
    rw [hs]
    exact hl _ (List.mem_map.2 ⟨e, he, rfl⟩)
/-- A name has a pair more. -/
def giveL (L : List (ByteArray × List TP)) (k : ByteArray) (x : TP) : List (ByteArray × List TP) := L.map fun e => if e.1 = k then (e.1, e.2 ++ [x]) else e
theorem giveL_keys (L : List (ByteArray × List TP)) (k : ByteArray) (x : TP) : (giveL L k x).map Prod.fst = L.map Prod.fst := by
  unfold giveL
  rw [List.map_map]
  refine List.map_congr_left fun e _ => ?_
  simp only [Function.comp_def]
  split <;> rfl
theorem mset_map {α : Type} [DecidableEq α] (v : Value) (k : α) : ∀ {m : List (α × Value)}, (m.map Prod.fst).Nodup → k ∈ m.map Prod.fst → mset m k v = m.map fun e => if e.1 = k then (k, v) else e
  | [], _, h => by simp at h
  | p :: r, hn, h => by
    have hn' := List.nodup_cons.1 (show (p.1 :: r.map Prod.fst).Nodup from hn)
    by_cases hp : p.1 = k
    · have hr : r.map (fun e => if e.1 = k then (k, v) else e) = r := by
        rw [List.map_congr_left (g := id) (fun e he => ?_), List.map_id]
        have : e.1 ≠ k := fun h => hn'.1 (by rw [hp, ← h]; exact List.mem_map.2 ⟨e, he, rfl⟩)
        simp [this]
      simp [mset, hp, hr]
    · have hk : k ∈ r.map Prod.fst := (List.mem_cons.1 (show k ∈ p.1 :: r.map Prod.fst from h)).resolve_left (fun e => hp e.symm)
      simp [mset, hp, mset_map v k hn'.2 hk]
theorem map_inj_right' {α β : Type} {f : α → β} (hf : ∀ a b, f a = f b → a = b) : ∀ {l l' : List α}, l.map f = l'.map f → l = l'
  | [], [], _ => rfl
  | [], _ :: _, h => by simp at h
  | _ :: _, [], h => by simp at h
  | a :: l, b :: l', h => by
    simp only [List.map_cons, List.cons.injEq] at h
    rw [hf _ _ h.1, map_inj_right' hf h.2]
theorem nodup_key {β : Type} : ∀ {m : List (ByteArray × β)}, (m.map Prod.fst).Nodup → ∀ {e f}, e ∈ m → f ∈ m → e.1 = f.1 → e = f
  | [], _, e, f, h, _, _ => by cases h
  | p :: m, hn, e, f, he, hf, hef => by
    have hn' := List.nodup_cons.1 (show (p.1 :: m.map Prod.fst).Nodup from hn)
    rcases List.mem_cons.1 he with h1 | h1 <;> rcases List.mem_cons.1 hf with h2 | h2
    · rw [h1, h2]
    · exact absurd (List.mem_map.2 ⟨f, h2, by rw [← hef, h1]⟩) hn'.1
    · exact absurd (List.mem_map.2 ⟨e, h1, by rw [hef, h2]⟩) hn'.1
    · exact nodup_key hn'.2 h1 h2 hef
theorem rows_apart : ∀ {m : List (ByteArray × Value × List TP)}, m.Pairwise (fun e f => ∀ g, e.2.1.ownBlock = some g → f.2.1.ownBlock ≠ some g) → ∀ {e f}, e ∈ m → f ∈ m → e ≠ f → ∀ g, e.2.1.ownBlock = some g → f.2.1.ownBlock ≠ some g
  | [], _, e, f, h, _, _ => by cases h
  | p :: m, hp, e, f, he, hf, hne => by
    obtain ⟨h1, h2⟩ := List.pairwise_cons.1 hp
    rcases List.mem_cons.1 he with h3 | h3 <;> rcases List.mem_cons.1 hf with h4 | h4
    · exact absurd (h3.trans h4.symm) hne
    · rw [h3]; exact h1 f h4
    · rw [h4]; exact fun g h5 h6 => h1 e h3 g h6 h5
    · exact rows_apart h2 h3 h4 hne
/-- A row has grown, and has been laid back. -/
theorem AsgIs.give {w w1 w2 : World} {base b : Nat} {L : List (ByteArray × List TP)} {k : ByteArray} {q : List TP} {x : TP} {m0 : List (ByteArray × Value)} {v0 v : Value} (h : AsgIs w base b L) (hb : b < base) (hk : (k, q) ∈ L)
    (hm0 : MapIs Value.string w b m0) (hv0 : mget m0 k = some v0) (_hbase : base ≤ w.heap.size)
    (hrow : w1.ownsRow base 268 2 v (q.length + 1) ((q ++ [x]).flatMap tpCells)) (hk1 : Kept v0.ownBlock.toList w w1) (hv : v.ownBlock = v0.ownBlock ∨ ∃ g, v.ownBlock = some g ∧ w.heap.size ≤ g)
    (hm : MapIs Value.string w2 b (mset m0 k v)) (hk2 : Kept [b] w1 w2) : AsgIs w2 base b (giveL L k x) := by
  have hn := h.nodup
  obtain ⟨m, h1, rfl, h3, h4⟩ := h
  obtain ⟨e, he, heq⟩ := List.mem_map.1 hk
  obtain ⟨k', u, q'⟩ := e
  simp only [Prod.mk.injEq] at heq
  obtain ⟨rfl, rfl⟩ := heq
  have hsame : m0.map (fun p => (Value.string p.1, p.2)) = (m.map fun e => (e.1, e.2.1)).map (fun p => (Value.string p.1, p.2)) := by
    obtain ⟨es, cl, g1, _, g3⟩ := hm0
    obtain ⟨es', cl', g1', _, g3'⟩ := h1
    rw [g1] at g1'
    cases g1'
    rw [← g3, ← g3']
  have hm0e : m0 = m.map fun e => (e.1, e.2.1) := by
    refine map_inj_right' (fun p q hpq => ?_) hsame
    simp only [Prod.mk.injEq, Value.string.injEq] at hpq
    exact Prod.ext hpq.1 hpq.2
  subst hm0e
  have hu : u = v0 := by
    have := mget_of_mem h1.nodup (List.mem_map.2 ⟨_, he, rfl⟩ : (k', u) ∈ m.map fun e => (e.1, e.2.1))
    rw [this] at hv0
    exact Option.some.inj hv0
  subst hu
  have hkeys : (m.map Prod.fst).Nodup := by simpa [List.map_map, Function.comp_def] using hn
  have huniq : ∀ e ∈ m, e.1 = k' → e = (k', u, q') := fun e he' hek => nodup_key hkeys he' he hek
  refine ⟨m.map fun e => if e.1 = k' then (e.1, v, e.2.2 ++ [x]) else e, ?_, ?_, ?_, ?_⟩
  · rw [mset_map v k' h1.nodup (List.mem_map.2 ⟨_, List.mem_map.2 ⟨_, he, rfl⟩, rfl⟩)] at hm
    rw [List.map_map] at hm ⊢
    rw [show (fun e => (e.1, e.2.1)) ∘ (fun e : ByteArray × Value × List TP => if e.1 = k' then (e.1, v, e.2.2 ++ [x]) else e) = (fun e : ByteArray × Value => if e.1 = k' then (k', v) else e) ∘ (fun e : ByteArray × Value × List TP => (e.1, e.2.1)) from by
      funext e
      simp only [Function.comp_def]
      split
      · rename_i hh; rw [hh]
      · rfl]
    exact hm
  · unfold giveL
    rw [List.map_map, List.map_map]
    refine List.map_congr_left fun e _ => ?_
    simp only [Function.comp_def]
    split <;> rfl
  · intro f hf
    obtain ⟨e, hem, rfl⟩ := List.mem_map.1 hf
    by_cases hek : e.1 = k'
    · have := huniq e hem hek
      subst this
      simp only [if_true]
      rw [List.length_append]
      exact hk2.own hrow (fun g hg hm => by have := own_ge hrow g hg; have := List.mem_singleton.1 hm; omega)
    · rw [if_neg hek]
      have h0 := h3 e hem
      have h5 := hk1.own h0 (fun g hg hm => rows_apart h4 hem he (fun h => hek (by rw [h])) g hg (by simpa using hm))
      exact hk2.own h5 (fun g hg hm => by have := own_ge h0 g hg; have := List.mem_singleton.1 hm; omega)
  · rw [List.pairwise_map]
    refine List.Pairwise.imp_of_mem ?_ (List.Pairwise.and (List.pairwise_map.1 hkeys) h4)
    rintro e f hem hfm ⟨hne, hef⟩ g
    have hnew : ∀ f ∈ m, f.1 ≠ k' → ∀ g, v.ownBlock = some g → f.2.1.ownBlock ≠ some g := by
      intro f hfm hfk g hg hfg
      rcases hv with hv | ⟨g', hv, hge⟩
      · rw [hv] at hg
        exact rows_apart h4 hfm he (fun h => hfk (by rw [h])) g hfg hg
      · have h6 := own_lt (h3 f hfm) g hfg
        rw [hg] at hv
        have : g = g' := Option.some.inj hv
        omega
    by_cases hek : e.1 = k' <;> by_cases hfk : f.1 = k'
    · exact absurd (hek.trans hfk.symm) hne
    · rw [if_pos hek, if_neg hfk]
      exact hnew f hfm hfk g
    · rw [if_neg hek, if_pos hfk]
      exact fun h5 h6 => hnew e hem hek g h6 h5
    · rw [if_neg hek, if_neg hfk]
      exact hef g
end Go.Proofs.YtghgffhcdnmpnaaGreat
/-
  Whether a pair, or a member, takes part in what is given anew (213, 215). Conditions: the maps hold them.
-/
namespace Go.Proofs.YtghgffhcdnmpnaaGreat
open Go.RowKit Go.Sort
set_option maxRecDepth 100000 in
set_option maxHeartbeats 1600000 in
theorem canTopic_any (Pb N c : Nat) (A : Option Addr) (pm : List (TP × Value)) (x : TP) (w : World) (hM : MapIs tpEnc w Pb pm) (hx : mget pm x = some (.slice A N c)) :
    Calls Tryz.prog 213 #[tpEnc x, .map (some Pb)] w fun e w' => e = .returned (.bool (decide (2 ≤ N))) ∧ Kept [] w w' := by
  have HM := Lib.hid hM
  have HX := Lib.hid hx
  clear hM hx
  go_enter Tryz.func213, Tryz.ntmps213
  go_wp2_with (first
    | (refine wl_load_struct rfl 268 _ rfl Tryz.underlying268 rfl rfl w.heap.size 0 rfl [.string x.1, .int .i32 x.2] rfl (fun a v hv => by rw [Nat.zero_add, cell_alloc_at]; simpa using hv) ?_)
    | (refine wl_lookup rfl _ _ 266 rfl 44 Tryz.underlying266 tp_keys _ (Tryz.zeroValue44 _) Pb pm rfl (HM.out.alloc _) x rfl ?_; rw [HX.out]))
  go_ret
  exact ⟨congrArg (fun b => Ending.returned (.bool b)) (decide_eq_decide.2 (by omega)), (Kept.refl _ _).alloc _⟩
set_option maxRecDepth 100000 in
set_option maxHeartbeats 1600000 in
theorem canConsumer_any (Mb Cb Pb base N : Nat) (k : ByteArray) (q l : List TP) (X : Nat → Prop) (L cl : List (ByteArray × List TP)) (pm : List (TP × Value)) (w : World) (hA : AsgIs w base Mb L) (hC : CpAt w X Cb cl) (hP : MapIs tpEnc w Pb pm)
    (hk : (k, q) ∈ L) (hl : (k, l) ∈ cl) (hq : ∀ x ∈ q, ∃ A c, mget pm x = some (.slice A N c)) (hle : q.length ≤ l.length) :
    Calls Tryz.prog 215 #[.string k, .map (some Mb), .map (some Cb), .map (some Pb)] w fun e w' => e = .returned (.bool (decide (q.length < l.length ∨ (2 ≤ N ∧ 0 < q.length)))) ∧ Kept [] w w' := by
  obtain ⟨m, v, hm, _, hg, hrow⟩ := hA.get hk
  obtain ⟨cm, Al, cc, hcm, _, hgl, hsl⟩ := hC.get hl
  obtain ⟨Aq, cq, rfl⟩ := own_form hrow
  have hn63 := hsl.2.1
  have HM := Lib.hid hm
  have HG := Lib.hid hg
  have HCM := Lib.hid hcm
  have HGL := Lib.hid hgl
  have hs := own_slis hrow
  have hq63 := hs.2.1
  have HSL := Lib.hid hs
  have HQ := Lib.hid hq
  have HP := Lib.hid hP
  clear hA hC hm hg hcm hgl hs hsl hrow hk hl hq hP
  go_enter Tryz.func215, Tryz.ntmps215
  by_cases hlt : q.length < l.length
  · rw [show decide (q.length < l.length ∨ (2 ≤ N ∧ 0 < q.length)) = true by simp [hlt]]
    have hlt' : (q.length : Int) < (l.length : Int) := by omega
    have hgt' : ¬ (l.length : Int) < (q.length : Int) := by omega
    go_wp2_with (first
      | (refine wl_lookup rfl _ _ 262 rfl 269 Tryz.underlying262 str9 _ (Tryz.zeroValue269 _) Mb m rfl HM.out k rfl ?_; rw [HG.out])
      | (refine wl_lookup rfl _ _ 262 rfl 269 Tryz.underlying262 str9 _ (Tryz.zeroValue269 _) Cb cm rfl HCM.out k rfl ?_; rw [HGL.out]))
    go_ret
    exact ⟨rfl, Kept.refl _ _⟩
  · have hlt' : ¬ (q.length : Int) < (l.length : Int) := by omega
    have HCT : Hid (∀ W x, Kept [] w W → x ∈ q → Calls Tryz.prog 213 #[tpEnc x, .map (some Pb)] W fun e w' => e = .returned (.bool (decide (2 ≤ N))) ∧ Kept [] W w') := fun W x hW hx => by
      obtain ⟨A, c, h⟩ := HQ.out x hx
      exact canTopic_any Pb N c A pm x W (HP.out.kept hW (by simp)) h
    obtain ⟨r, hr⟩ : ∃ r, decide (q.length < l.length ∨ (2 ≤ N ∧ 0 < q.length)) = r := ⟨_, rfl⟩
    rw [hr]
    have HR := Lib.hid hr
    have HLT := Lib.hid hlt
    clear hr
    have hgt' : ¬ (l.length : Int) < (q.length : Int) := by omega
    go_wp2_with (first
      | (refine wl_lookup rfl _ _ 262 rfl 269 Tryz.underlying262 str9 _ (Tryz.zeroValue269 _) Mb m rfl HM.out k rfl ?_; rw [HG.out])
      | (refine wl_lookup rfl _ _ 262 rfl 269 Tryz.underlying262 str9 _ (Tryz.zeroValue269 _) Cb cm rfl HCM.out k rfl ?_; rw [HGL.out]))
    go_loopg [31] q.length (fun kk v wr => ∃ j, kk = q.length - j ∧ j ≤ q.length ∧ v = .int .i64 j ∧ (0 < j → N < 2) ∧ Kept [] w wr)
    case atStart => exact ⟨0, rfl, Nat.zero_le _, rfl, fun h => absurd h (by omega), Kept.refl _ _⟩
    case round =>
      obtain ⟨j, hk, hj, rfl, hno, hkr⟩ := hrel
      have HNO := Lib.hid hno
      have HKR := Lib.hid hkr
      clear hno hkr
      by_cases hjl : j < q.length
      · have hjl' : (j : Int) < (q.length : Int) := by omega
        obtain ⟨x, hx⟩ : ∃ x, q[j]? = some x := ⟨_, List.getElem?_eq_getElem hjl⟩
        obtain ⟨b, off, rfl, hcc⟩ := HSL.out.2.2 (by omega)
        have HXM := Lib.hid (List.mem_of_getElem? hx)
        have HCX : Hid (∀ a v, [Value.string x.1, .int .i32 x.2][a]? = some v → wr.cell? ⟨b, off + j * 2 + a, none⟩ = some v) := fun a v hv => by
          have := HKR.out.cell (hcc (j * 2 + a) v (tp_get hx a v hv)) (by simp)
          rwa [← Nat.add_assoc] at this
        clear hx hcc
        have hadd : (⟨b, off, none⟩ : Addr).add (j * 2) = ⟨b, off + j * 2, none⟩ := by unfold Addr.add; split <;> simp_all
        by_cases hN : 2 ≤ N
        · rw [show decide (2 ≤ N) = true by simpa using hN] at HCT
          have HN := Lib.hid hN
          clear hN
          go_wp2_with (first
            | (refine wl_load_struct rfl 268 _ rfl Tryz.underlying268 rfl rfl b (off + j * 2) rfl [.string x.1, .int .i32 x.2] rfl HCX.out ?_)
            | (refine wl_load_struct rfl 268 _ rfl Tryz.underlying268 rfl rfl wr.heap.size 0 rfl [.string x.1, .int .i32 x.2] rfl (fun a v hv => by rw [Nat.zero_add, cell_alloc_at]; simpa using hv) ?_)
            | ((with_reducible refine (HCT.out _ x (HKR.out.alloc _) HXM.out).mono ?_); rintro e w1 ⟨rfl, hk⟩; have HK := Lib.hid hk; clear hk))
          go_ret
          refine ⟨?_, (HKR.out.alloc _).trans0 HK.out⟩
          rw [← HR.out, show decide (q.length < l.length ∨ (2 ≤ N ∧ 0 < q.length)) = true from decide_eq_true (.inr ⟨HN.out, by omega⟩)]
          rfl
        · rw [show decide (2 ≤ N) = false by simpa using hN] at HCT
          have HN := Lib.hid hN
          clear hN
          go_wp2_with (first
            | (refine wl_load_struct rfl 268 _ rfl Tryz.underlying268 rfl rfl b (off + j * 2) rfl [.string x.1, .int .i32 x.2] rfl HCX.out ?_)
            | (refine wl_load_struct rfl 268 _ rfl Tryz.underlying268 rfl rfl wr.heap.size 0 rfl [.string x.1, .int .i32 x.2] rfl (fun a v hv => by rw [Nat.zero_add, cell_alloc_at]; simpa using hv) ?_)
            | ((with_reducible refine (HCT.out _ x (HKR.out.alloc _) HXM.out).mono ?_); rintro e w1 ⟨rfl, hk⟩; have HK := Lib.hid hk; clear hk))
          go_roundg (q.length - (j + 1))
          case measure => omega
          case rel => exact ⟨j + 1, rfl, by omega, rfl, fun _ => by have := HN.out; omega, (HKR.out.alloc _).trans0 HK.out⟩
      · obtain rfl : j = q.length := by omega
        have hjl' : ¬ (q.length : Int) < (q.length : Int) := by omega
        go_wp2
        go_ret
        refine ⟨?_, HKR.out⟩
        rw [← HR.out, show decide (q.length < l.length ∨ (2 ≤ N ∧ 0 < q.length)) = false from decide_eq_false (by rintro (h | ⟨h1, h2⟩); (exact HLT.out h); have := HNO.out h2; omega)]
        rfl
end Go.Proofs.YtghgffhcdnmpnaaGreat
/-
  A pair is given to the first of the sorted members (212). Conditions: the maps hold what they must; the first could have the pair.
-/
namespace Go.Proofs.YtghgffhcdnmpnaaGreat
open Go.RowKit Go.Sort
theorem info268 : (Tryz.prog.info? 268).map (fun i => (i.zero, i.size, i.bytes)) = some (some (.agg #[.string ⟨#[]⟩, .int .i32 0]), 2, 24) := by kernel_rfl
theorem giveL_len {L : List (ByteArray × List TP)} {k : ByteArray} {x : TP} {n : Nat} (h : ∀ e ∈ L, e.2.length ≤ n) : ∀ e ∈ giveL L k x, e.2.length ≤ n + 1 := by
  intro e he
  obtain ⟨f, hf, rfl⟩ := List.mem_map.1 he
  have := h f hf
  by_cases hk : f.1 = k
  · rw [if_pos hk, List.length_append]
    simpa using this
  · rw [if_neg hk]
    omega
set_option maxRecDepth 100000 in
set_option maxHeartbeats 3200000 in
theorem assign_any (w0 w : World) (Mb Qb Cb n c : Nat) (A : Option Addr) (X : Nat → Prop) (L cl : List (ByteArray × List TP)) (cc : List (TP × Value)) (x : TP) (k : ByteArray) (q l : List TP) (ids : List ByteArray)
    (hk0 : Kept [Mb, Cb] w0 w) (hA : AsgIs w w0.heap.size Mb L) (hMb : Mb < w0.heap.size) (hCb : Cb < w0.heap.size) (hMC : Mb ≠ Cb) (hQ : CpAt w X Qb cl) (hC : MapIs tpEnc w Cb cc)
    (hS : SlIs w 1 A n (strs ids)) (hid : ids[0]? = some k) (hk : (k, q) ∈ L) (hl : (k, l) ∈ cl) (hx : x ∈ l) (hL : ∀ e ∈ L, e.2.length ≤ 1000000) (hLn : L.length ≤ 100) :
    Calls Tryz.prog 212 #[tpEnc x, .slice A n c, .map (some Mb), .map (some Qb), .map (some Cb)] w fun e w' => ∃ v ids', e = .returned v ∧ ids'.Perm (L.map Prod.fst) ∧ ids'.Pairwise (fun p q => mlt (szOf (giveL L k x)) q p = false) ∧
      w'.ownsRow w0.heap.size 9 1 v ids'.length (strs ids') ∧ AsgIs w' w0.heap.size Mb (giveL L k x) ∧ MapIs tpEnc w' Cb (mset cc x (.string k)) ∧ Kept [Mb, Cb] w0 w' := by
  obtain ⟨m, v0, hm, _, hg, hrow⟩ := hA.get hk
  obtain ⟨cm, Al, cl', hcm, _, hgl, hsl⟩ := hQ.get hl
  obtain ⟨A0, c0, rfl⟩ := own_form hrow
  have hn : n = ids.length := by have := hS.1; simpa [strs] using this.symm
  have hpos : 0 < n := by rw [hn]; exact (List.getElem?_eq_some_iff.1 hid).1
  have hn63 := hS.2.1
  have hq6 : q.length ≤ 1000000 := hL _ hk
  obtain ⟨b, off, rfl, hcc⟩ := hS.2.2 hpos
  have hc0 : w.cell? ⟨b, off, none⟩ = some (.string k) := by
    have := hcc 0 (.string k) (by simp [strs, hid])
    simpa using this
  obtain ⟨z, hz⟩ : ∃ z, w0.heap.size = z := ⟨_, rfl⟩
  have hzw : z ≤ w.heap.size := by rw [← hz]; exact hk0.size
  rw [hz] at hA hrow hMb hCb ⊢
  have hpos' : (0 : Int) < (n : Int) := by omega
  have HA := Lib.hid hA
  have HK0 := Lib.hid hk0
  have HM := Lib.hid hm
  have HG := Lib.hid hg
  have HROW := Lib.hid hrow
  have HCM := Lib.hid hcm
  have HGL := Lib.hid hgl
  have HSL := Lib.hid hsl
  have HC := Lib.hid hC
  have HX := Lib.hid hx
  have HKL := Lib.hid hk
  have HL := Lib.hid hL
  clear hA hQ hC hk0 hm hg hrow hcm hgl hsl hx hk hl hS hcc hn hL
  go_enter Tryz.func212, Tryz.ntmps212
  go_wp2
  obtain ⟨y, hy⟩ : ∃ y, w.heap.size = y := ⟨_, rfl⟩
  have hK1 : Kept [] w (w.alloc (Obj.cells #[.string x.1, .int .i32 x.2] 268)) := (Kept.refl _ _).alloc _
  have hB1 : (w.alloc (Obj.cells #[.string x.1, .int .i32 x.2] 268)).heap[y]? = some (.cells #[.string x.1, .int .i32 x.2] 268 (0, 0)) := by rw [← hy, heap_alloc_new]
  rw [hy]
  obtain ⟨w1, hw1⟩ : ∃ w1, w.alloc (Obj.cells #[.string x.1, .int .i32 x.2] 268) = w1 := ⟨_, rfl⟩
  rw [hw1] at hK1 hB1 ⊢
  have HK1 := Lib.hid hK1
  have HB1 := Lib.hid hB1
  have HCB : Hid (∀ W, Kept [] w1 W → ∀ a v, [Value.string x.1, .int .i32 x.2][a]? = some v → W.cell? ⟨y, 0 + a, none⟩ = some v) := fun W hW a v hv => by
    rw [Nat.zero_add]
    refine hW.cell ?_ (by simp)
    rw [cell_of_row _ _ _ _ _ _ hB1]
    simpa using hv
  have hc1 : w1.cell? ⟨b, off, none⟩ = some (.string k) := hK1.cell hc0 (by simp)
  have HINC : Hid (∀ W, Kept [] w1 W → Calls Tryz.prog 232 #[.slice Al l.length cl', tpEnc x] W fun e w' => e = .returned (.bool true) ∧ Kept [] W w') := fun W hW => by
    have h := includes_any Al l.length cl' l x W ((HSL.out.kept0 hK1).kept0 hW)
    rwa [show decide (x ∈ l) = true by simpa using HX.out] at h
  clear hw1 hK1 hB1 hc0
  have HQ4 : Hid (∀ g ∈ (Value.slice A0 q.length c0).ownBlock.toList, z ≤ g ∧ g < y) := fun g hg => ⟨own_ge HROW.out g (by simpa using hg), hy ▸ own_lt HROW.out g (by simpa using hg)⟩
  have hyw : y ≤ w1.heap.size := by rw [← hy]; exact HK1.out.size
  have hzy : z ≤ y := by omega
  have HY := Lib.hid hy
  clear hy
  refine wp_loop_once ?_
  go_wp2_with (first
    | (refine wl_lookup rfl _ _ 262 rfl 269 Tryz.underlying262 str9 _ (Tryz.zeroValue269 _) Qb cm rfl (HCM.out.kept HK1.out (by simp)) k rfl ?_; rw [HGL.out])
    | (refine wl_load_struct rfl 268 _ rfl Tryz.underlying268 rfl rfl y 0 rfl [.string x.1, .int .i32 x.2] rfl (HCB.out _ (Kept.refl _ _)) ?_)
    | ((with_reducible refine (HINC.out _ (Kept.refl _ _)).mono ?_); rintro e w2 ⟨rfl, hk⟩; have HK2 := Lib.hid hk; have HM2 := Lib.hid ((HM.out.kept HK1.out (by simp)).kept hk (by simp)); have HC2 := Lib.hid ((HC.out.kept HK1.out (by simp)).kept hk (by simp)); have hs2 := hk.size; clear hk)
    | (refine wl_lookup rfl _ _ 262 rfl 269 Tryz.underlying262 str9 _ (Tryz.zeroValue269 _) Mb m rfl HM2.out k rfl ?_; rw [HG.out])
    | (refine wl_load_struct rfl 268 _ rfl Tryz.underlying268 rfl rfl y 0 rfl [.string x.1, .int .i32 x.2] rfl (HCB.out _ HK2.out) ?_)
    | (at_builtin; refine wl_append rfl _ _ 269 rfl z 268 Tryz.underlying269 info268 rfl (by decide) (.slice A0 q.length c0) q.length (q.flatMap tpCells) rfl (own_kept0 HROW.out ((HK1.out.trans0 HK2.out).alloc _)) _ 1 1 [.string x.1, .int .i32 x.2] rfl (own_slis (own_new w2 268 2 1 #[.string x.1, .int .i32 x.2] 0 (Nat.zero_le _) (by omega) rfl rfl)) (by simp [Value.oneCell']) (by omega) (by omega) (by simp; omega) ?_
       intro v4 w4 hown hk4 hat
       have HO4 := Lib.hid hown
       have HAT := Lib.hid hat
       have HW3 : Hid (Kept [] w (w2.alloc (.cells #[.string x.1, .int .i32 x.2] 268))) := (HK1.out.trans0 HK2.out).alloc _
       have HK4 : Hid (Kept (Value.slice A0 q.length c0).ownBlock.toList (w2.alloc (.cells #[.string x.1, .int .i32 x.2] 268)) w4) := hk4
       have HM4 := Lib.hid ((HM2.out.alloc (.cells #[.string x.1, .int .i32 x.2] 268)).kept hk4 (fun hm => by have := HQ4.out _ hm; omega))
       have HC4 := Lib.hid ((HC2.out.alloc (.cells #[.string x.1, .int .i32 x.2] 268)).kept hk4 (fun hm => by have := HQ4.out _ hm; omega))
       have HB4 := Lib.hid (hk4.heap (((HK2.out).alloc (.cells #[.string x.1, .int .i32 x.2] 268)).heap HB1.out (by simp)) (fun hm => by have := HQ4.out _ hm; omega))
       clear hown hk4 hat)
    | (refine wl_update rfl _ _ _ 262 rfl 269 Tryz.underlying262 str9 Mb m rfl HM4.out k rfl v4 rfl ?_
       intro w5 hM5 hk5 hs5
       have HM5 := Lib.hid hM5
       have HK5 := Lib.hid hk5
       have HC5 := Lib.hid (HC4.out.kept hk5 (by simp; omega))
       have HB5 := Lib.hid (hk5.heap HB4.out (by simp; omega))
       clear hM5 hk5)
    | (refine wl_load_struct rfl 268 _ rfl Tryz.underlying268 rfl rfl y 0 rfl [.string x.1, .int .i32 x.2] rfl (fun a v hv => by rw [Nat.zero_add, cell_of_row _ _ _ _ _ _ HB5.out]; simpa using hv) ?_)
    | (refine wl_update rfl _ _ _ 272 rfl 9 Tryz.underlying272 tp_keys Cb cc rfl HC5.out x rfl (.string k) rfl ?_
       intro w6 hM6 hk6 hs6
       have HC6 := Lib.hid hM6
       have HK6 := Lib.hid hk6
       clear hM6 hk6))
  have hK06 : Kept [Mb, Cb] w0 w6 := (((HK0.out.trans0 HW3.out).trans HK4.out (fun g hg => .inr (by have := HQ4.out g hg; omega))).trans HK5.out (fun g hg => .inl (by simp at hg; simp [hg]))).trans HK6.out (fun g hg => .inl (by simp at hg; simp [hg]))
  have hA5 : AsgIs w5 z Mb (giveL L k x) := by
    refine AsgIs.give (w := w2.alloc (.cells #[.string x.1, .int .i32 x.2] 268)) (v0 := .slice A0 q.length c0) (HA.out.kept0 HW3.out) hMb HKL.out (HM2.out.alloc _) HG.out (by have := HW3.out.size; omega) ?_ HK4.out ?_ HM5.out HK5.out
    · have := HO4.out
      rw [List.flatMap_append]
      exact this
    · rcases HAT.out with h | h
      · exact .inl h
      · exact .inr ⟨_, h, Nat.le_refl _⟩
  have hA6 : AsgIs w6 z Mb (giveL L k x) := hA5.kept HK6.out (by simpa using hMC) (by simpa using hCb)
  obtain ⟨m6, hm6, hkeys, hsz, hlen⟩ := hA6.sized (fun e he => by have := giveL_len HL.out e he; omega)
  have HSORT := Lib.hid (sortIds_any Mb m6 (szOf (giveL L k x)) w6 hm6 hsz (by rw [hlen]; simpa [giveL] using hLn))
  have HA6 := Lib.hid hA6
  have HK06 := Lib.hid hK06
  have HKEYS := Lib.hid hkeys
  have hz6 : z ≤ w6.heap.size := by rw [← hz]; exact hK06.size
  clear hA5 hA6 hK06 hm6 hkeys hsz hlen
  go_wp2_with ((with_reducible refine HSORT.out.mono ?_); rintro e w7 ⟨v, ids', rfl, hp, hs, hrow, hk⟩; have HP := Lib.hid hp; have HS7 := Lib.hid hs; have HROW7 := Lib.hid hrow; have HK7 := Lib.hid hk; clear hp hs hrow hk)
  go_ret
  refine ⟨v, ids', rfl, ?_, HS7.out, own_mono HROW7.out hz6, HA6.out.kept0 HK7.out, HC6.out.kept HK7.out (by simp), HK06.out.trans0 HK7.out⟩
  have := HP.out
  rw [HKEYS.out, giveL_keys] at this
  exact this
end Go.Proofs.YtghgffhcdnmpnaaGreat
/-
  Copies of the sticky strategies' maps (216, 217), one laid upon another (221). Conditions: none beyond each lemma's own.
-/
namespace Go.Proofs.YtghgffhcdnmpnaaGreat
open Go.RowKit Go.Sort
theorem run_append_zero {w : World} {ty : TypeId} {A : Option Addr} {n c : Nat} {xs : List Value} (h : SlIs w 2 A n xs) (hn : n ≤ 1000000) :
    ∃ v' w', (Builtin.append_ #[269, 269] ty #[.slice A 0 0, .slice A n c]).run Tryz.prog w = .ok v' w' ∧ Kept [] w w' := by
  rcases Nat.eq_zero_or_pos n with h0 | h0
  · subst h0
    obtain ⟨i, hi, _⟩ := info_parts info268
    refine ⟨.slice A 0 0, w, ?_, Kept.refl _ _⟩
    cases A with
    | none => simp [Builtin.append_, run_underlying Tryz.underlying269, sizeOf, typeInfo, hi, Builtin.lenOf, Builtin.firstCells]
    | some a => simp [Builtin.append_, run_underlying Tryz.underlying269, sizeOf, typeInfo, hi, Builtin.lenOf, Builtin.firstCells, loadCells, loadCellsFrom, storeCells]
  · obtain ⟨b, off, rfl, _⟩ := h.2.2 h0
    obtain ⟨v', w', h1, _, h3⟩ := run_append_row_grows (P := Tryz.prog) (ty := ty) (w := w) 269 268 Tryz.underlying269 info268 rfl (by decide) (b := ⟨b, off, none⟩) (n := 0) (cap := 0) (SlIs.nil _ _ _) (Nat.le_refl _) h (c := c) h0 (by omega) (by decide)
    exact ⟨v', w', h1, Kept.of_grown h3⟩
theorem wl_append_run {P : Program} {ops : Array Oper} {rest : List Oper} {o : Oper} {a : Act} {w w' : World} {v u v' : Value} {Q : Exit → Act → World → Prop} (hgd : o.guard = none) (s x : Operand) (t : TypeId) (ho : o.op = .call { callee := .builtin .append, args := #[s, x], argTypes := #[t, t] })
    (hs : a.eval s = v) (hx : a.eval x = u) (hr : (Builtin.append_ #[t, t] o.type #[v, u]).run P w = .ok v' w') (h : wpList P ops Q rest (a.put o.dst v') w') : wpList P ops Q (o :: rest) a w :=
  wpList_plain hgd fun _ hK => ow_append_at s x t ho hs hx hr (hK _ _ h)
set_option maxRecDepth 100000 in
set_option maxHeartbeats 3200000 in
theorem deepCopy_any (base Mb : Nat) (L : List (ByteArray × List TP)) (w : World) (hA : AsgIs w base Mb L) (hL : ∀ e ∈ L, e.2.length ≤ 1000000) :
    Calls Tryz.prog 216 #[.map (some Mb)] w fun e w' => ∃ b, e = .returned (.map (some b)) ∧ Kept [] w w' := by
  obtain ⟨m, hm, rfl, hrows, _⟩ := hA
  have hmm := @run_makeMap Tryz.prog
  have hmh : ∀ (n : Int) (w : World), (Instr.makeMap 262 (some (.int .i64 n))).run Tryz.prog w = .ok (.map (some w.heap.size)) (w.alloc (.map #[] 0)) := fun n w => by
    simp [Instr.makeMap, asInt, asIntOf]
  obtain ⟨m1, hm1⟩ : ∃ m1, m.map (fun e => (e.1, e.2.1)) = m1 := ⟨_, rfl⟩
  have HM := Lib.hid (hm1 ▸ hm)
  have HV : Hid (∀ (i : Nat) (p : ByteArray × Value), m1[i]? = some p → ∃ A n c xs, p.2 = .slice A n c ∧ SlIs w 2 A n xs ∧ n ≤ 1000000) := fun i p hp => by
    rw [← hm1, List.getElem?_map] at hp
    cases he : m[i]? with
    | none => rw [he] at hp; cases hp
    | some e =>
      rw [he] at hp
      cases hp
      have hem := List.mem_of_getElem? he
      obtain ⟨A, c, hv⟩ := own_form (hrows e hem)
      have hr := hrows e hem
      rw [hv] at hr
      exact ⟨A, _, c, _, hv, own_slis hr, hL _ (List.mem_map.2 ⟨e, hem, rfl⟩)⟩
  have hMlt := hm.lt
  obtain ⟨z, hz⟩ : ∃ z, w.heap.size = z := ⟨_, rfl⟩
  rw [hz] at hMlt
  have HZ := Lib.hid hz
  clear hm hrows hL hm1 hz
  go_enter Tryz.func216, Tryz.ntmps216
  go_wp2_with (first
    | (refine wl_len_map rfl _ 262 9 269 rfl Tryz.underlying262 Mb m1 rfl HM.out ?_)
    | (refine wl_range rfl _ 262 rfl 9 269 Tryz.underlying262 Mb m1 rfl (HM.out.alloc _) ?_; intro w1 hI hk1 hs1; have HI := Lib.hid hI; have HK1 := Lib.hid hk1; have HS1 := Lib.hid hs1; clear hI hk1 hs1))
  simp only [Act.put, List.setIfInBounds_toArray, List.set_cons_succ, List.set_cons_zero]
  have hD : (w.alloc (Obj.map #[] 0)).heap.size = z + 1 := by rw [← HZ.out]; simp
  have hDM : MapIs Value.string w1 z [] := by
    have h := MapIs.new Value.string w
    rw [HZ.out] at h
    exact h.kept HK1.out (by simp)
  have HDM := Lib.hid hDM
  have hs1 : w1.heap.size = z + 2 := by rw [HS1.out, hD]
  have HSZ := Lib.hid hs1
  have HI0 : Hid (IterIs Value.string w1 (z + 1) Mb m1 []) := by rw [← hD]; exact HI.out
  have HKW : Hid (Kept [] w w1) := ((Kept.refl [] w).alloc _).trans0 HK1.out
  rw [hD, HZ.out]
  clear HI HK1 HS1 hD hDM hs1
  go_loopg [4, 5] m1.length (fun k _ _ wr => ∃ (done : List Nat) (d : List (ByteArray × Value)), k = m1.length - done.length ∧ IterIs Value.string wr (z + 1) Mb m1 done ∧ MapIs Value.string wr z d ∧ Kept [] w wr)
  case atStart => exact ⟨[], [], rfl, HI0.out, HDM.out, HKW.out⟩
  case round =>
    obtain ⟨done, d, hk, hI, hd, hkr⟩ := hrel
    have HI1 := Lib.hid hI
    have HD := Lib.hid hd
    have HKR := Lib.hid hkr
    have hdl := hI.left
    have hz1 : z + 1 < wr.heap.size := hI.lt
    clear hI hd hkr
    by_cases hlt : done.length < m1.length
    · go_wp2_with (first
        | (refine wl_next rfl _ rfl (z + 1) Mb m1 done rfl HI1.out (fun e => absurd e (by omega)) ?_
           intro i p w2 hp hi hI2 hK2 hs2
           obtain ⟨t, u⟩ := p
           obtain ⟨A, n, c, xs, hu, hsl, hn⟩ := HV.out i _ hp
           simp only at hu
           subst hu
           have HI2 := Lib.hid hI2
           have HK2 := Lib.hid hK2
           have HP := Lib.hid hp
           have HS2 := Lib.hid hs2
           have HSL := Lib.hid (hsl.kept0 ((HKR.out.trans hK2 (fun x hx => .inr (by have h1 := List.mem_singleton.1 hx; have h2 := HZ.out; omega)))))
           have HD2 := Lib.hid (HD.out.kept hK2 (by simp))
           obtain ⟨v3, w3, hr3, hk3⟩ := run_append_zero (ty := 269) (c := c) HSL.out hn
           have HR3 := Lib.hid hr3
           have HK3 := Lib.hid hk3
           have HD3 := Lib.hid (HD2.out.kept hk3 (by simp))
           clear hI2 hK2 hp hi hs2 hsl hn hr3 hk3)
        | (refine wl_entry rfl _ rfl (z + 1) Mb m1 done i _ rfl HI2.out HP.out ?_)
        | (at_builtin; refine wl_append_run rfl _ _ 269 rfl rfl rfl HR3.out ?_)
        | (refine wl_update rfl _ _ _ 262 rfl 269 Tryz.underlying262 str9 z d rfl HD3.out t rfl v3 rfl ?_
           intro w4 hM4 hk4 hs4
           have HD4 := Lib.hid hM4
           have HK4 := Lib.hid hk4
           clear hM4 hk4))
      have HI4 := Lib.hid ((HI2.out.kept HK3.out (by simp) (by simp)).kept HK4.out (by simp; omega) (by simp))
      simp only [Act.put, List.setIfInBounds_toArray, List.set_cons_succ, List.set_cons_zero]
      go_roundg (m1.length - (done ++ [i]).length)
      case measure =>
        rw [List.length_append]
        simp only [List.length_cons, List.length_nil]
        omega
      case rel => exact ⟨done ++ [i], _, rfl, HI4.out, HD4.out, ((HKR.out.trans HK2.out (fun x hx => .inr (by have h1 := List.mem_singleton.1 hx; have h2 := HZ.out; omega))).trans0 HK3.out).trans HK4.out (fun x hx => .inr (by have h1 := List.mem_singleton.1 hx; have h2 := HZ.out; omega))⟩
    · have hde : done.length = m1.length := by omega
      go_wp2_with (refine wl_next rfl _ rfl (z + 1) Mb m1 done rfl HI1.out (fun _ => ?_) (fun i p w2 hp hi hI2 hK2 hs2 => absurd hI2.left (by rw [List.length_append]; simp only [List.length_cons, List.length_nil]; omega)))
      go_ret
      exact ⟨z, rfl, HKR.out⟩
set_option maxRecDepth 100000 in
set_option maxHeartbeats 3200000 in
theorem clone_any (Cb : Nat) (m : List (TP × Value)) (w : World) (hC : MapIs tpEnc w Cb m) :
    Calls Tryz.prog 217 #[.map (some Cb)] w fun e w' => ∃ b, e = .returned (.map (some b)) ∧ Kept [] w w' := by
  have hmh : ∀ (n : Int) (w : World), (Instr.makeMap 272 (some (.int .i64 n))).run Tryz.prog w = .ok (.map (some w.heap.size)) (w.alloc (.map #[] 0)) := fun n w => by
    simp [Instr.makeMap, asInt, asIntOf]
  have hbe : ∀ w : World, (binOp BinOp.eql 272 (.map (some Cb)) (.map none)).run Tryz.prog w = .ok (.bool false) w := fun w => by
    have h : (Op.equalIn Op.maxDepth 272 (.map (some Cb)) (.map none)).run Tryz.prog w = .ok false w := run_equalIn_map_nil (P := Tryz.prog) w 9999 272 _ _ (some Cb) Tryz.underlying272
    simp [binOp, Op.equal, h, Result.andThen]
  have HM := Lib.hid hC
  have hMlt := hC.lt
  obtain ⟨z, hz⟩ : ∃ z, w.heap.size = z := ⟨_, rfl⟩
  rw [hz] at hMlt
  have HZ := Lib.hid hz
  clear hC hz
  go_enter Tryz.func217, Tryz.ntmps217
  go_wp2_with (first
    | (refine wl_len_map rfl _ 272 268 9 rfl Tryz.underlying272 Cb m rfl HM.out ?_)
    | (refine wl_range rfl _ 272 rfl 268 9 Tryz.underlying272 Cb m rfl (HM.out.alloc _) ?_; intro w1 hI hk1 hs1; have HI := Lib.hid hI; have HK1 := Lib.hid hk1; have HS1 := Lib.hid hs1; clear hI hk1 hs1))
  simp only [Act.put, List.setIfInBounds_toArray, List.set_cons_succ, List.set_cons_zero]
  have hD : (w.alloc (Obj.map #[] 0)).heap.size = z + 1 := by rw [← HZ.out]; simp
  have hDM : MapIs tpEnc w1 z [] := by
    have h := MapIs.new tpEnc w
    rw [HZ.out] at h
    exact h.kept HK1.out (by simp)
  have HDM := Lib.hid hDM
  have hs1 : w1.heap.size = z + 2 := by rw [HS1.out, hD]
  have HI0 : Hid (IterIs tpEnc w1 (z + 1) Cb m []) := by rw [← hD]; exact HI.out
  have HKW : Hid (Kept [] w w1) := ((Kept.refl [] w).alloc _).trans0 HK1.out
  rw [hD, HZ.out]
  clear HI HK1 HS1 hD hDM hs1
  go_loopg [4, 5] m.length (fun k _ _ wr => ∃ (done : List Nat) (d : List (TP × Value)), k = m.length - done.length ∧ IterIs tpEnc wr (z + 1) Cb m done ∧ MapIs tpEnc wr z d ∧ Kept [] w wr)
  case atStart => exact ⟨[], [], rfl, HI0.out, HDM.out, HKW.out⟩
  case round =>
    obtain ⟨done, d, hk, hI, hd, hkr⟩ := hrel
    have HI1 := Lib.hid hI
    have HD := Lib.hid hd
    have HKR := Lib.hid hkr
    have hdl := hI.left
    have hz1 : z + 1 < wr.heap.size := hI.lt
    clear hI hd hkr
    by_cases hlt : done.length < m.length
    · go_wp2_with (first
        | (refine wl_next rfl _ rfl (z + 1) Cb m done rfl HI1.out (fun e => absurd e (by omega)) ?_
           intro i p w2 hp hi hI2 hK2 hs2
           obtain ⟨t, u⟩ := p
           have HI2 := Lib.hid hI2
           have HK2 := Lib.hid hK2
           have HP := Lib.hid hp
           have HS2 := Lib.hid hs2
           have HD2 := Lib.hid (HD.out.kept hK2 (by simp))
           clear hI2 hK2 hp hi hs2)
        | (refine wl_entry rfl _ rfl (z + 1) Cb m done i _ rfl HI2.out HP.out ?_)
        | (refine wl_load_struct rfl 268 _ rfl Tryz.underlying268 rfl rfl w2.heap.size 0 rfl [.string t.1, .int .i32 t.2] rfl (fun a v hv => by rw [Nat.zero_add, cell_alloc_at]; simpa using hv) ?_)
        | (refine wl_update rfl _ _ _ 272 rfl 9 Tryz.underlying272 tp_keys z d rfl (HD2.out.alloc _) t rfl u rfl ?_
           intro w4 hM4 hk4 hs4
           have HD4 := Lib.hid hM4
           have HK4 := Lib.hid hk4
           clear hM4 hk4))
      have HI4 := Lib.hid ((HI2.out.kept ((Kept.refl [] w2).alloc _) (by simp) (by simp)).kept HK4.out (by simp; omega) (by simp))
      simp only [Act.put]
      go_roundg (m.length - (done ++ [i]).length)
      case measure =>
        rw [List.length_append]
        simp only [List.length_cons, List.length_nil]
        omega
      case rel => exact ⟨done ++ [i], _, rfl, HI4.out, HD4.out, ((HKR.out.trans HK2.out (fun x hx => .inr (by have h1 := List.mem_singleton.1 hx; have h2 := HZ.out; omega))).alloc _).trans HK4.out (fun x hx => .inr (by have h1 := List.mem_singleton.1 hx; have h2 := HZ.out; omega))⟩
    · have hde : done.length = m.length := by omega
      go_wp2_with (refine wl_next rfl _ rfl (z + 1) Cb m done rfl HI1.out (fun _ => ?_) (fun i p w2 hp hi hI2 hK2 hs2 => absurd hI2.left (by rw [List.length_append]; simp only [List.length_cons, List.length_nil]; omega)))
      go_ret
      exact ⟨z, rfl, HKR.out⟩
set_option maxRecDepth 100000 in
set_option maxHeartbeats 3200000 in
theorem copy_any (Mb Fb : Nat) (m f : List (ByteArray × Value)) (w : World) (hM : MapIs Value.string w Mb m) (hF : MapIs Value.string w Fb f) (hne : Mb ≠ Fb) :
    Calls Tryz.prog 221 #[.map (some Mb), .map (some Fb)] w fun e w' => e = .returned (.tuple #[]) ∧ ∃ f' : List (ByteArray × Value), f'.Perm f ∧ MapIs Value.string w' Mb (f'.foldl (fun m e => mset m e.1 e.2) m) ∧ Kept [Mb] w w' := by
  have HM := Lib.hid hM
  have HF := Lib.hid hF
  have hMlt := hM.lt
  obtain ⟨z, hz⟩ : ∃ z, w.heap.size = z := ⟨_, rfl⟩
  rw [hz] at hMlt
  have HZ := Lib.hid hz
  clear hM hF hz
  go_enter Tryz.func221, Tryz.ntmps221
  go_wp2_with ((refine wl_range rfl _ 262 rfl 9 269 Tryz.underlying262 Fb f rfl HF.out ?_; intro w1 hI hk1 hs1; have HI := Lib.hid hI; have HK1 := Lib.hid hk1; have HS1 := Lib.hid hs1; clear hI hk1 hs1))
  simp only [Act.put, List.setIfInBounds_toArray, List.set_cons_succ, List.set_cons_zero]
  rw [HZ.out] at HI ⊢
  have HM1 := Lib.hid (HM.out.kept HK1.out (by simp))
  go_loopg [4, 5] f.length (fun k _ _ wr => ∃ (done : List Nat), k = f.length - done.length ∧ IterIs Value.string wr z Fb f done ∧ MapIs Value.string wr Mb ((walked f done).foldl (fun m e => mset m e.1 e.2) m) ∧ Kept [Mb] w wr)
  case atStart => exact ⟨[], rfl, HI.out, HM1.out, HK1.out.mono (by simp)⟩
  case round =>
    obtain ⟨done, hk, hI, hd, hkr⟩ := hrel
    have HI1 := Lib.hid hI
    have HD := Lib.hid hd
    have HKR := Lib.hid hkr
    have hdl := hI.left
    clear hI hd hkr
    by_cases hlt : done.length < f.length
    · go_wp2_with (first
        | (refine wl_next rfl _ rfl z Fb f done rfl HI1.out (fun e => absurd e (by omega)) ?_
           intro i p w2 hp hi hI2 hK2 hs2
           obtain ⟨t, u⟩ := p
           have HI2 := Lib.hid hI2
           have HK2 := Lib.hid hK2
           have HP := Lib.hid hp
           have HD2 := Lib.hid (HD.out.kept hK2 (by simp; omega))
           clear hI2 hK2 hp hi hs2)
        | (refine wl_entry rfl _ rfl z Fb f done i _ rfl HI2.out HP.out ?_)
        | (refine wl_update rfl _ _ _ 262 rfl 269 Tryz.underlying262 str9 Mb _ rfl HD2.out t rfl u rfl ?_
           intro w4 hM4 hk4 hs4
           have HD4 := Lib.hid hM4
           have HK4 := Lib.hid hk4
           clear hM4 hk4))
      have HI4 := Lib.hid (HI2.out.kept HK4.out (by simp; omega) (by simp; omega))
      simp only [Act.put]
      go_roundg (f.length - (done ++ [i]).length)
      case measure =>
        rw [List.length_append]
        simp only [List.length_cons, List.length_nil]
        omega
      case rel =>
        refine ⟨done ++ [i], rfl, HI4.out, ?_, (HKR.out.trans HK2.out (fun x hx => .inr (by have h1 := List.mem_singleton.1 hx; have h2 := HZ.out; omega))).trans HK4.out (fun x hx => .inl hx)⟩
        rw [walked_snoc HP.out, List.foldl_append]
        exact HD4.out
    · have hde : done.length = f.length := by omega
      have hidn := HI1.out.2.1
      have hidl := HI1.out.2.2.1
      have HPERM : Hid ((walked f done).Perm f) := walked_perm hidn hidl hde
      clear hidn hidl
      go_wp2_with (refine wl_next rfl _ rfl z Fb f done rfl HI1.out (fun _ => ?_) (fun i p w2 hp hi hI2 hK2 hs2 => absurd hI2.left (by rw [List.length_append]; simp only [List.length_cons, List.length_nil]; omega)))
      exact bodyPost_end (results_none rfl _ _ _) rfl ⟨rfl, _, HPERM.out, HD.out, HKR.out⟩
end Go.Proofs.YtghgffhcdnmpnaaGreat
/-
  What is even is not given anew (233, 218). Conditions: at least one name; the lists differ by one at most.
-/
namespace Go.Proofs.YtghgffhcdnmpnaaGreat
open Go.RowKit Go.Sort
set_option maxRecDepth 100000 in
set_option maxHeartbeats 3200000 in
theorem isBalanced_any (base Mb Qb : Nat) (L : List (ByteArray × List TP)) (w : World) (hA : AsgIs w base Mb L) (hL : ∀ e ∈ L, e.2.length ≤ 1000000) (hn : L.length ≤ 100) (h1 : 1 ≤ L.length) (heven : ∀ e ∈ L, ∀ f ∈ L, e.2.length ≤ f.2.length + 1) :
    Calls Tryz.prog 233 #[.map (some Mb), .map (some Qb)] w fun e w' => e = .returned (.bool true) ∧ Kept [] w w' := by
  obtain ⟨m, hm, hkeys, hsz, hlen⟩ := hA.sized (fun e he => by have := hL e he; omega)
  have HSORT := Lib.hid (sortIds_any Mb m (szOf L) w hm hsz (by omega))
  have HM := Lib.hid hm
  have HSZ := Lib.hid hsz
  have HKEYS := Lib.hid hkeys
  have HND := Lib.hid hA.nodup
  have HEV := Lib.hid heven
  have HLL := Lib.hid hL
  have hl1 : 1 ≤ (m.map Prod.fst).length := by rw [hkeys, List.length_map]; exact h1
  have hl2 : (m.map Prod.fst).length ≤ 100 := by rw [hkeys, List.length_map]; exact hn
  clear hm hsz hkeys hA hL heven hlen
  go_enter Tryz.func233, Tryz.ntmps233
  go_wp2_with (first
    | ((with_reducible refine HSORT.out.mono ?_)
       rintro e w1 ⟨v, ids, rfl, hp, _, hrow, hk⟩
       have hli := hp.length_eq
       obtain ⟨n, hn1⟩ : ∃ n, ids.length = n + 1 := ⟨ids.length - 1, by omega⟩
       rw [hn1] at hrow
       obtain ⟨A, c, rfl⟩ := own_form hrow
       obtain ⟨g, rfl⟩ := own_row hrow (Nat.succ_pos _)
       obtain ⟨k0, hk0⟩ : ∃ k0, ids[0]? = some k0 := ⟨_, List.getElem?_eq_getElem (by omega)⟩
       obtain ⟨k1, hk1⟩ : ∃ k1, ids[n]? = some k1 := ⟨_, List.getElem?_eq_getElem (by omega)⟩
       have hc0 : w1.cell? ⟨g, 0, none⟩ = some (.string k0) := (own_cell hrow (show (strs ids)[0]? = some (Value.string k0) by simp [strs, hk0])).1
       have hc1 : w1.cell? ⟨g, n, none⟩ = some (.string k1) := (own_cell hrow (show (strs ids)[n]? = some (Value.string k1) by simp [strs, hk1])).1
       have hm0 : k0 ∈ m.map Prod.fst := hp.mem_iff.1 (List.mem_of_getElem? hk0)
       have hm1 : k1 ∈ m.map Prod.fst := hp.mem_iff.1 (List.mem_of_getElem? hk1)
       obtain ⟨A0, c0, hg0, hb0⟩ := HSZ.out k0 hm0
       obtain ⟨A1, c1, hg1, hb1⟩ := HSZ.out k1 hm1
       have HG0 := Lib.hid hg0
       have HG1 := Lib.hid hg1
       have HM1 := Lib.hid (HM.out.kept hk (by simp))
       have HK := Lib.hid hk
       have hle : szOf L k1 ≤ szOf L k0 + 1 := by
         rw [HKEYS.out] at hm0 hm1
         obtain ⟨⟨k0', q0⟩, he0, hq0⟩ := List.mem_map.1 hm0
         obtain ⟨⟨k1', q1⟩, he1, hq1⟩ := List.mem_map.1 hm1
         simp only at hq0 hq1
         subst hq0
         subst hq1
         rw [szOf_mem HND.out he0, szOf_mem HND.out he1]
         exact HEV.out _ he1 _ he0
       have hwn : IntKind.i64.wrap ((n : Int) + 1 - 1) = (n : Int) := by rw [IntWalk.i64_left, IntWalk.wrap64_in _ (by omega)]; omega
       have hws : IntKind.i64.wrap ((szOf L k1 : Int) - 1) = (szOf L k1 : Int) - 1 := by rw [IntWalk.i64_left, IntWalk.wrap64_in _ (by omega)]
       have hge : (szOf L k1 : Int) - 1 ≤ (szOf L k0 : Int) := by omega
       clear hp hrow hk hk0 hk1 hm0 hm1 hg0 hg1)
    | (refine wl_lookup rfl _ _ 262 rfl 269 Tryz.underlying262 str9 _ (Tryz.zeroValue269 _) Mb m rfl HM1.out k0 rfl ?_; rw [HG0.out])
    | (refine wl_lookup rfl _ _ 262 rfl 269 Tryz.underlying262 str9 _ (Tryz.zeroValue269 _) Mb m rfl HM1.out k1 rfl ?_; rw [HG1.out]))
  go_ret
  exact ⟨rfl, HK.out⟩
set_option maxRecDepth 100000 in
set_option maxHeartbeats 3200000 in
theorem perform_any (s v3 v4 v6 v7 : Value) (base Mb Qb n c : Nat) (A : Option Addr) (l : List TP) (L : List (ByteArray × List TP)) (w : World) (hS : SlIs w 2 A n (l.flatMap tpCells)) (hA : AsgIs w base Mb L) (hL : ∀ e ∈ L, e.2.length ≤ 1000000) (hn : L.length ≤ 100)
    (h1 : 0 < n → 1 ≤ L.length) (heven : ∀ e ∈ L, ∀ f ∈ L, e.2.length ≤ f.2.length + 1) :
    Calls Tryz.prog 218 #[s, .slice A n c, .map (some Mb), v3, v4, .map (some Qb), v6, v7] w fun e w' => e = .returned (.bool false) ∧ Kept [] w w' := by
  have hnl := sl_tp hS
  have hn63 := hS.2.1
  by_cases hn0 : 0 < n
  · obtain ⟨b, off, rfl, hcc⟩ := hS.2.2 hn0
    obtain ⟨x, hx⟩ : ∃ x, l[0]? = some x := ⟨_, List.getElem?_eq_getElem (by omega)⟩
    have HCX : Hid (∀ a v, [Value.string x.1, .int .i32 x.2][a]? = some v → w.cell? ⟨b, off + a, none⟩ = some v) := fun a v hv => by
      have := hcc (0 * 2 + a) v (tp_get hx a v hv)
      simpa using this
    have hn0' : (0 : Int) < (n : Int) := by omega
    have HB : Hid (∀ W, Kept [] w W → Calls Tryz.prog 233 #[.map (some Mb), .map (some Qb)] W fun e w' => e = .returned (.bool true) ∧ Kept [] W w') := fun W hW => isBalanced_any base Mb Qb L W (hA.kept0 hW) hL hn (h1 hn0) heven
    clear hS hA hL h1 heven hx hcc hnl
    go_enter Tryz.func218, Tryz.ntmps218
    go_wp2
    refine wp_loop_once ?_
    go_wp2
    refine wp_loop_once ?_
    go_wp2_with (first
      | (refine wl_load_struct rfl 268 _ rfl Tryz.underlying268 rfl rfl b off rfl [.string x.1, .int .i32 x.2] rfl HCX.out ?_)
      | ((with_reducible refine (HB.out _ ((Kept.refl _ _).alloc _)).mono ?_); rintro e w1 ⟨rfl, hk⟩; have HK := Lib.hid hk; clear hk))
    go_ret
    exact ⟨rfl, ((Kept.refl _ _).alloc _).trans0 HK.out⟩
  · obtain rfl : n = 0 := by omega
    clear hS hA hL h1 heven hnl
    go_enter Tryz.func218, Tryz.ntmps218
    go_wp2
    refine wp_loop_once ?_
    go_wp2
    refine wp_loop_once ?_
    go_wp2
    go_ret
    exact ⟨rfl, Kept.refl _ _⟩
end Go.Proofs.YtghgffhcdnmpnaaGreat
