/-
  A map of topics to rows of members; a map of members' metadata; what the strategy by ranges gives, in plain Lean.
-/
import Derived.Test.YtghgffhcdnmpnaaGreatZC6
namespace Go.Proofs.YtghgffhcdnmpnaaGreat
open Go.RowKit Go.Sort

theorem beq_bytes (a b : ByteArray) : (a == b) = decide (a = b) := by
  cases a with
  | mk x =>
    cases b with
    | mk y =>
      show (x == y) = _
      by_cases h : x = y
      · subst h; simp
      · have : ¬ (ByteArray.mk x = ByteArray.mk y) := fun e => h (by injection e)
        simp [h, this]
instance lawful_bytes : LawfulBEq ByteArray where
  eq_of_beq {a b} h := by rw [beq_bytes] at h; simpa using h
  rfl {a} := by rw [beq_bytes]; simp

structure RmWith (w : World) (S : List Nat) (b : Nat) (h : ByteArray → List ByteArray) (m : List (ByteArray × Value)) : Prop where
  bS : b ∈ S
  map : MapIs Value.string w b m
  rows : ∀ t u, (t, u) ∈ m → w.ownsRow 0 9 1 u (h t).length (strs (h t))
  rowsS : ∀ t u, (t, u) ∈ m → ∀ g, u.ownBlock = some g → g ∈ S
  apart : ∀ t u t' u' g, (t, u) ∈ m → (t', u') ∈ m → u.ownBlock = some g → u'.ownBlock = some g → t = t'
  nil : ∀ t, t ∉ m.map Prod.fst → h t = []
  some' : ∀ t u, (t, u) ∈ m → h t ≠ []

theorem RmWith.kept {w w' : World} {S T : List Nat} {b : Nat} {h : ByteArray → List ByteArray} {m : List (ByteArray × Value)} (r : RmWith w S b h m) (k : Kept T w w') (hT : ∀ x, x ∈ S → x ∉ T) : RmWith w' S b h m where
  bS := r.bS
  map := r.map.kept k (hT _ r.bS)
  rows := fun t u hu => k.own (r.rows t u hu) (fun g hg => hT _ (r.rowsS t u hu g hg))
  rowsS := r.rowsS
  apart := r.apart
  nil := r.nil
  some' := r.some'
theorem RmWith.new {w : World} {b : Nat} (hm : MapIs Value.string w b []) : RmWith w [b] b (fun _ => []) [] :=
  ⟨by simp, hm, by simp, by simp, by simp, fun _ _ => rfl, by simp⟩
theorem RmWith.row {w : World} {S : List Nat} {b : Nat} {h : ByteArray → List ByteArray} {m : List (ByteArray × Value)} (r : RmWith w S b h m) (t : ByteArray) :
    w.ownsRow 0 9 1 ((mget m t).getD (.slice none 0 0)) (h t).length (strs (h t)) ∧ ∀ g, ((mget m t).getD (.slice none 0 0)).ownBlock = some g → g ∈ S := by
  cases hm : mget m t with
  | none =>
    rw [r.nil t (mget_none_iff.1 hm)]
    exact ⟨World.ownsRow_nil _ _ _ _, fun g hg => by cases hg⟩
  | some u => exact ⟨r.rows t u (mem_of_mget hm), r.rowsS t u (mem_of_mget hm)⟩

/-- A member is put behind a topic's. -/
theorem RmWith.push {w w1 w2 : World} {S : List Nat} {b : Nat} {h : ByteArray → List ByteArray} {m : List (ByteArray × Value)} (r : RmWith w S b h m) (t : ByteArray) (v : Value) (zs : List ByteArray) (hz : zs ≠ [])
    (hrow : w1.ownsRow 0 9 1 v zs.length (strs zs)) (hk1 : Kept ((mget m t).getD (.slice none 0 0)).ownBlock.toList w w1) (hv : v.ownBlock = ((mget m t).getD (.slice none 0 0)).ownBlock ∨ ∃ g, v.ownBlock = some g ∧ w.heap.size ≤ g)
    (hm : MapIs Value.string w2 b (mset m t v)) (hk2 : Kept [b] w1 w2) :
    RmWith w2 (v.ownBlock.toList ++ S) b (upd h t zs) (mset m t v) := by
  have hr := r.row t
  obtain ⟨u0, hu0⟩ : ∃ u0, (mget m t).getD (.slice none 0 0) = u0 := ⟨_, rfl⟩
  rw [hu0] at hr hk1 hv
  have hnd := r.map.nodup
  have hb0 : b ∉ u0.ownBlock.toList := fun hm => own_map_ne hr.1 r.map b (by simpa using hm) rfl
  have hb1 : MapIs Value.string w1 b m := r.map.kept hk1 hb0
  have hsame : ∀ s u g, (s, u) ∈ m → u.ownBlock = some g → u0.ownBlock = some g → s = t := by
    intro s u g hu hg h0
    cases hmg : mget m t with
    | none =>
      rw [hmg] at hu0
      subst hu0
      cases h0
    | some u1 =>
      rw [hmg] at hu0
      have hu0 : u1 = u0 := hu0
      subst hu0
      exact r.apart s u t u1 g hu (mem_of_mget hmg) hg h0
  have hother : ∀ s u, (s, u) ∈ m → s ≠ t → w2.ownsRow 0 9 1 u (h s).length (strs (h s)) := by
    intro s u hu hne
    have h1 := hk1.own (r.rows s u hu) (fun g hg hm => hne (hsame s u g hu hg (by simpa using hm)))
    exact hk2.own h1 (fun g hg => by simpa using own_map_ne h1 hb1 g hg)
  have hnew : w2.ownsRow 0 9 1 v zs.length (strs zs) := hk2.own hrow (fun g hg => by simpa using own_map_ne hrow hb1 g hg)
  have hvap : ∀ s u g, (s, u) ∈ m → v.ownBlock = some g → u.ownBlock = some g → s = t := by
    intro s u g hu hv' hg
    rcases hv with hv | ⟨g', hv, hge⟩
    · exact hsame s u g hu hg (hv ▸ hv')
    · have := own_lt (r.rows s u hu) g hg
      rw [hv'] at hv
      have : g = g' := Option.some.inj hv
      omega
  refine ⟨List.mem_append_right _ r.bS, hm, ?_, ?_, ?_, ?_, ?_⟩
  · intro s u hu
    rcases mem_mset hnd hu with ⟨rfl, rfl⟩ | ⟨hne, hu⟩
    · rw [upd_same]
      exact hnew
    · rw [upd_other _ _ hne]
      exact hother s u hu hne
  · intro s u hu g hg
    rcases mem_mset hnd hu with ⟨rfl, rfl⟩ | ⟨hne, hu⟩
    · exact List.mem_append_left _ (by simpa using hg)
    · exact List.mem_append_right _ (r.rowsS s u hu g hg)
  · intro s u s' u' g hu hu' hg hg'
    rcases mem_mset hnd hu with ⟨e1, e2⟩ | ⟨hne, hu1⟩ <;> rcases mem_mset hnd hu' with ⟨e3, e4⟩ | ⟨hne', hu2⟩
    · rw [e1, e3]
    · rw [e1, hvap s' u' g hu2 (e2 ▸ hg) hg']
    · rw [e3, hvap s u g hu1 (e4 ▸ hg') hg]
    · exact r.apart s u s' u' g hu1 hu2 hg hg'
  · intro s hs
    rw [keys_mset] at hs
    have hst : s ≠ t := by
      rintro rfl
      split at hs
      · rename_i hin
        exact hs hin
      · exact hs (by simp)
    rw [upd_other _ _ hst]
    refine r.nil s (fun hin => hs ?_)
    split
    · exact hin
    · exact List.mem_append_left _ hin
  · intro s u hu
    rcases mem_mset hnd hu with ⟨rfl, rfl⟩ | ⟨hne, hu⟩
    · rw [upd_same]
      exact hz
    · rw [upd_other _ _ hne]
      exact r.some' s u hu

/-! ### Members' metadata in memory -/
def isMeta (w : World) (X : Nat → Prop) (v : Value) (tops : List ByteArray) : Prop :=
  ∃ ver tv gen rp, v = .agg #[.int .i16 ver, tv, .slice none 0 0, .slice none 0 0, .int .i32 gen, .pointer rp] ∧ SlAt w X 1 tv (strs tops)
def MmAt (w : World) (X : Nat → Prop) (b : Nat) (l : List (ByteArray × List ByteArray)) : Prop :=
  X b ∧ ∃ m : List (ByteArray × Value × List ByteArray), MapIs Value.string w b (m.map fun e => (e.1, e.2.1)) ∧ m.map (fun e => (e.1, e.2.2)) = l ∧ ∀ e ∈ m, isMeta w (fun x => X x ∧ x ≠ b) e.2.1 e.2.2
theorem isMeta.kept {S : List Nat} {w w' : World} {X : Nat → Prop} {v : Value} {t : List ByteArray} (h : isMeta w X v t) (k : Kept S w w') (hS : ∀ x, X x → x ∉ S) : isMeta w' X v t := by
  obtain ⟨ver, tv, gen, rp, h1, h2⟩ := h
  exact ⟨ver, tv, gen, rp, h1, h2.kept k hS⟩
theorem MmAt.kept {S : List Nat} {w w' : World} {X : Nat → Prop} {b : Nat} {l : List (ByteArray × List ByteArray)} (h : MmAt w X b l) (k : Kept S w w') (hS : ∀ x, X x → x ∉ S) : MmAt w' X b l := by
  obtain ⟨h0, m, h1, h2, h3⟩ := h
  exact ⟨h0, m, h1.kept k (hS _ h0), h2, fun e he => (h3 e he).kept k (fun x hx => hS x hx.1)⟩

/-! ### What has been walked through -/
def walked {α : Type} (l : List α) (done : List Nat) : List α := done.filterMap fun i => l[i]?
theorem walked_snoc {α : Type} {l : List α} {done : List Nat} {i : Nat} {x : α} (hi : l[i]? = some x) : walked l (done ++ [i]) = walked l done ++ [x] := by
  simp [walked, hi]
theorem walked_all {α : Type} : ∀ (l : List α), (List.range l.length).filterMap (fun i => l[i]?) = l
  | [] => rfl
  | x :: l => by
    rw [List.length_cons, List.range_succ_eq_map, List.filterMap_cons, List.filterMap_map]
    have := walked_all l
    simpa [Function.comp_def] using this
theorem walked_perm {α : Type} {l : List α} {done : List Nat} (hn : done.Nodup) (hlt : ∀ i ∈ done, i < l.length) (hl : done.length = l.length) : (walked l done).Perm l := by
  have hall : ∀ i, i < l.length → i ∈ done := by
    intro i hi
    rcases Classical.em (i ∈ done) with h | h
    · exact h
    · have h2 : (i :: done).length ≤ (List.range l.length).length := List.Nodup.length_le_of_subset (List.nodup_cons.2 ⟨h, hn⟩) (fun j hj => by
        rcases List.mem_cons.1 hj with rfl | hj
        · simpa using hi
        · simpa using hlt j hj)
      simp at h2
      omega
  have hp : done.Perm (List.range l.length) := (List.perm_ext_iff_of_nodup hn List.nodup_range).2 (fun i => ⟨fun h => by simpa using hlt i h, fun h => hall i (by simpa using h)⟩)
  have h1 := hp.filterMap (fun i => l[i]?)
  have h2 := walked_all l
  rw [h2] at h1
  exact h1

/-! ### What the strategy by ranges gives -/
/-- The ids of those that want a topic. -/
def wantIds (l : List (ByteArray × List ByteArray)) (t : ByteArray) : List ByteArray := (l.filter fun p => decide (t ∈ p.2)).map Prod.fst
theorem wantIds_perm {l l' : List (ByteArray × List ByteArray)} (h : l.Perm l') (t : ByteArray) : (wantIds l t).Perm (wantIds l' t) := (h.filter _).map _
theorem wantIds_sub (l : List (ByteArray × List ByteArray)) (t : ByteArray) : List.Sublist (wantIds l t) (l.map Prod.fst) := (List.filter_sublist (l := l)).map _
/-- What a member gets of a topic. -/
def rangeOf (ids : List ByteArray) (ps : List Int) (k : ByteArray) : List Int := if k ∈ ids then rpart ps ids.length (ids.idxOf k) else []
def rangePlan (l : List (ByteArray × List ByteArray)) (tm : List (ByteArray × List Int)) (k t : ByteArray) : List Int := rangeOf (srt (wantIds l t)) (tget tm t) k

theorem rfold_closed (f : ByteArray → ByteArray → List Int) (ids : List ByteArray) (t : ByteArray) (ps : List Int) (n : Nat) (hn : ids.Nodup) (hf : ∀ k ∈ ids, f k t = []) (k s : ByteArray) : ∀ j, j ≤ ids.length →
    rfold f ids t ps n j k s = if s = t ∧ k ∈ ids.take j then rpart ps n (ids.idxOf k) else f k s
  | 0, _ => by simp [rfold]
  | j + 1, hj => by
    have ih := fun k s => rfold_closed f ids t ps n hn hf k s j (by omega)
    obtain ⟨x, hx⟩ : ∃ x, ids[j]? = some x := ⟨_, List.getElem?_eq_getElem (by omega)⟩
    have hxt : x ∉ ids.take j := by
      have := keys_take (fun y : ByteArray => y) (l := ids) (by simpa using hn) j x hx
      simpa using this
    have hxi : ids.idxOf x = j := by
      have hxe : ids[j] = x := by
        have := List.getElem?_eq_getElem (l := ids) (i := j) (by omega)
        rw [this] at hx
        exact Option.some.inj hx
      rw [← hxe]
      exact hn.idxOf_getElem j (by omega)
    have hxm : x ∈ ids := List.mem_of_getElem? hx
    simp only [rfold, hx]
    rw [take_one hx]
    by_cases hks : k = x ∧ s = t
    · obtain ⟨rfl, rfl⟩ := hks
      rw [ih k s]
      simp [upd2, hxt, hf k hxm, hxi]
    · rw [show upd2 (rfold f ids t ps n j) x t (rfold f ids t ps n j x t ++ rpart ps n j) k s = rfold f ids t ps n j k s by simp only [upd2, hks, if_false]]
      rw [ih k s]
      by_cases hst : s = t
      · have hkx : ¬ k = x := fun e => hks ⟨e, hst⟩
        simp [hst, hkx]
      · simp [hst]
theorem rfold_all (f : ByteArray → ByteArray → List Int) (ids : List ByteArray) (t : ByteArray) (ps : List Int) (hn : ids.Nodup) (hf : ∀ k, f k t = []) (k s : ByteArray) :
    rfold f ids t ps ids.length ids.length k s = if s = t then rangeOf ids ps k else f k s := by
  rw [rfold_closed f ids t ps ids.length hn (fun k _ => hf k) k s _ (Nat.le_refl _), List.take_length]
  by_cases hst : s = t
  · subst hst
    by_cases hk : k ∈ ids
    · simp [hk, rangeOf]
    · simp [hk, rangeOf, hf]
  · simp [hst]
end Go.Proofs.YtghgffhcdnmpnaaGreat
/-
  (*balanceStrategy).Plan with the core by ranges. Conditions: seven members at most, each with its topics once; no list is longer than a million.
-/
namespace Go.Proofs.YtghgffhcdnmpnaaGreat
open Go.RowKit Go.Sort

theorem one_sl (w : World) (v : Value) (e : TypeId) : SlIs (w.alloc (.cells #[v] e)) 1 (some ⟨w.heap.size, 0, none⟩) 1 [v] := by
  refine ⟨rfl, by omega, fun _ => ⟨_, _, rfl, fun i u hu => ?_⟩⟩
  match i, hu with
  | 0, hu =>
    have : v = u := by simpa using hu
    subst this
    rw [cell_of_row _ _ _ _ _ _ (heap_alloc_new _ _)]
    rfl
theorem wl_len_map {P : Program} {ops : Array Oper} {Q : Exit → Act → World → Prop} {o : Oper} {rest : List Oper} {a : Act} {w : World} (hg : o.guard = none) (x : Operand) (t kt et : TypeId) (hop : o.op = Op.call { callee := .builtin .len, args := #[x], argTypes := #[t] }) (ht : P.underlying t = some (.map kt et))
    {κ : Type} {enc : κ → Value} (b : Nat) (m : List (κ × Value)) (hx : a.eval x = .map (some b)) (hM : MapIs enc w b m) (h : wpList P ops Q rest (a.put o.dst (.int .i64 m.length)) w) : wpList P ops Q (o :: rest) a w := by
  obtain ⟨es, cl, hb, hs, he⟩ := hM
  have hl : es.size = m.length := by have := congrArg List.length he; simpa using this
  have hr : (Builtin.len_ #[t] o.type #[.map (some b)]).run P w = .ok (goInt es.size) w := by
    simp [Builtin.len_, run_underlying ht, run_getObj_map w b es cl hb]
  rw [← hl] at h
  exact wl_value hg (by simp [execOp, hop, resolve, invoke, builtin, hx, hr, Result.andThen, goInt]) h
def addTop (h : ByteArray → List ByteArray) (id : ByteArray) (tops : List ByteArray) : ByteArray → List ByteArray := fun t => h t ++ (if t ∈ tops then [id] else [])
theorem addTop_nil (h : ByteArray → List ByteArray) (id : ByteArray) : addTop h id [] = h := by funext t; simp [addTop]
theorem addTop_snoc (h : ByteArray → List ByteArray) (id : ByteArray) (tops : List ByteArray) (t : ByteArray) (ht : t ∉ tops) : upd (addTop h id tops) t (addTop h id tops t ++ [id]) = addTop h id (tops ++ [t]) := by
  funext x
  by_cases hx : x = t
  · subst hx
    simp [upd, addTop, ht]
  · simp [upd, addTop, hx]
theorem wantIds_snoc (l : List (ByteArray × List ByteArray)) (p : ByteArray × List ByteArray) : (fun t => wantIds (l ++ [p]) t) = addTop (fun t => wantIds l t) p.1 p.2 := by
  funext t
  by_cases h : t ∈ p.2 <;> simp [wantIds, addTop, h]
theorem member_at {w : World} {X : Nat → Prop} {m : List (ByteArray × Value × List ByteArray)} (hmv : ∀ e ∈ m, isMeta w X e.2.1 e.2.2) {i : Nat} {p : ByteArray × Value} (hp : (m.map fun e => (e.1, e.2.1))[i]? = some p) :
    ∃ id tops ver A n c gen rp, p = (id, .agg #[.int .i16 ver, .slice A n c, .slice none 0 0, .slice none 0 0, .int .i32 gen, .pointer rp]) ∧ SlAt w X 1 (.slice A n c) (strs tops) ∧ (m.map fun e => (e.1, e.2.2))[i]? = some (id, tops) := by
  rw [List.getElem?_map] at hp
  cases he : m[i]? with
  | none => rw [he] at hp; cases hp
  | some e =>
    rw [he] at hp
    obtain ⟨ver, tv, gen, rp, h1, h2⟩ := hmv e (List.mem_of_getElem? he)
    obtain ⟨A, n, c, h3, h4⟩ := h2
    subst h3
    refine ⟨e.1, e.2.2, ver, A, n, c, gen, rp, ?_, ⟨A, n, c, rfl, h4⟩, by rw [List.getElem?_map, he]; rfl⟩
    rw [← h1]
    exact (Option.some.inj hp).symm
theorem meta_ones (ver : Int) (A : Option Addr) (n c : Nat) (gen : Int) (rp : Option Addr) : (#[Value.int .i16 ver, .slice A n c, .slice none 0 0, .slice none 0 0, .int .i32 gen, .pointer rp] : Array Value).all (·.oneCell') = true := by
  simp [Value.oneCell']
def rgF (bs pb tb : Nat) (t : ByteArray) (U : Value) (hl : List ByteArray) (X : Nat → Prop) (ps : List Int) (ix : Nat) (v : Value) (W : World) : Prop :=
  match ix with
  | 0 => v = .pointer (some ⟨bs, 0, none⟩)
  | 1 => v = .pointer (some ⟨bs, 0, none⟩)
  | 2 => v = .pointer (some ⟨bs, 0, none⟩)
  | 3 => v = .func (.func 72) #[] #[]
  | 4 => v = .map (some pb)
  | 5 => v = .func (.func 148) #[] #[]
  | 6 => v = U
  | 7 => ∃ l', v = U ∧ l'.Perm hl ∧ W.ownsRow 0 9 1 U hl.length (strs l')
  | 8 => v = .string t
  | 9 => v = .map (some tb)
  | 10 => v = .string t
  | 11 => SlAt W X 1 v (ints ps)
  | _ => True
def rgE (g : Nat) (i : Nat) (a b : World) : Prop := Kept (match i with | 7 => [g] | _ => []) a b
theorem rgE_R {g i : Nat} {a b c : World} (h : Kept [g] a b) (k : rgE g i b c) : Kept [g] a c := by
  unfold rgE at k
  split at k
  · exact h.trans k (fun x hx => .inl hx)
  · exact h.trans0 k
theorem rgF_stable {bs pb tb t U hl X ps g} (hX : ∀ x, X x → x ∉ [g]) : ∀ i j v w w', i ≠ j → rgF bs pb tb t U hl X ps j v w → rgE g i w w' → rgF bs pb tb t U hl X ps j v w' := by
  intro i j v w w' hij h hk
  unfold rgF at h ⊢
  split at h <;> (first | (exact h) | skip)
  · unfold rgE at hk
    split at hk
    · exact absurd rfl hij
    · obtain ⟨l', h1, h2, h3⟩ := h
      exact ⟨l', h1, h2, own_kept0 h3 hk⟩
  · unfold rgE at hk
    split at hk
    · exact SlAt.kept h hk hX
    · exact SlAt.kept0 h hk
def rgPre (U : Value) (hl : List ByteArray) (i : Nat) (w : World) : Prop := i = 7 → w.ownsRow 0 9 1 U hl.length (strs hl)
theorem rgPre_stable {U : Value} {hl : List ByteArray} {g : Nat} : ∀ i j w w', i ≠ j → rgPre U hl j w → rgE g i w w' → rgPre U hl j w' := by
  intro i j w w' hij h hk hj
  subst hj
  unfold rgE at hk
  split at hk
  · exact absurd rfl hij
  · exact own_kept0 (h rfl) hk
set_option maxRecDepth 100000 in
set_option maxHeartbeats 3200000 in
/-- (*balanceStrategy).Plan, by ranges. -/
theorem planRange_any (bs mb tb : Nat) (X : Nat → Prop) (l : List (ByteArray × List ByteArray)) (tm : List (ByteArray × List Int)) (w : World)
    (hc : w.cell? ⟨bs, 0, none⟩ = some (.func (.func 72) #[] #[])) (hM : MmAt w X mb l) (hT : TmAt w X tb tm) (hX : ∀ x, X x → x < w.heap.size) (hl7 : l.length ≤ 7) (hnd : ∀ p ∈ l, p.2.Nodup) (hl2 : ∀ p ∈ l, p.2.length ≤ 1000000) (htm : ∀ t, (tget tm t).length ≤ 1000000) :
    Calls Tryz.prog 147 #[.pointer (some ⟨bs, 0, none⟩), .map (some mb), .map (some tb)] w fun e w' => ∃ pb S, e = .returned (.tuple #[.map (some pb), .nilIface]) ∧ PlanIs w' S pb (rangePlan l tm) ∧ (∀ x ∈ S, w.heap.size ≤ x) ∧ Kept [] w w' := by
  obtain ⟨hXb, m, hM1, rfl, hmv⟩ := hM
  have hbs : bs < w.heap.size := World.block_lt_of_cell? _ _ hc
  have HM := Lib.hid hM1
  have HMV := Lib.hid hmv
  have HT := Lib.hid hT
  have HX := Lib.hid hX
  have HND := Lib.hid hnd
  have HTM := Lib.hid htm
  have HC := Lib.hid hc
  have HL2 := Lib.hid hl2
  have hmblt : mb < w.heap.size := hM1.lt
  have hmm := @run_makeMap Tryz.prog
  have hmm2 : ∀ (n : Int) (w : World), (Instr.makeMap 83 (some (.int .i64 n))).run Tryz.prog w = .ok (.map (some w.heap.size)) (w.alloc (.map #[] 0)) := fun n w => by
    simp [Instr.makeMap, asInt, asIntOf]
  clear hM1 hmv hT hX hnd htm hc hl2
  obtain ⟨m1, hm1⟩ : ∃ m1, m.map (fun e => (e.1, e.2.1)) = m1 := ⟨_, rfl⟩
  have hm1l : m1.length = m.length := by rw [← hm1]; simp
  rw [hm1] at HM
  go_enter Tryz.func147, Tryz.ntmps147
  go_wp2_with (first | (refine wl_range rfl _ 75 rfl 9 79 Tryz.underlying75 mb m1 rfl (HM.out.alloc _) ?_; intro w1 hI hk1 hs1; have HI := Lib.hid hI; have HK1 := Lib.hid hk1; clear hI hk1))
  have hb1 : MapIs Value.string w1 w.heap.size [] := (MapIs.new _ _).kept HK1.out (by simp)
  have hK1 : Kept [] w w1 := ((Kept.refl [] w).alloc _).trans0 HK1.out
  have hsA : (w.alloc (Obj.map #[] 0)).heap.size = w.heap.size + 1 := by simp
  have HI' : Hid (IterIs Value.string w1 (w.heap.size + 1) mb m1 []) := hsA ▸ HI.out
  clear HI HK1
  have HK1 := Lib.hid hK1
  have HB1 := Lib.hid hb1
  clear hb1 hK1
  rw [hsA] at hs1 ⊢
  simp only [Act.put, List.setIfInBounds_toArray, List.set_cons_succ, List.set_cons_zero]
  go_loopg [9] m1.length (fun k _ wr => ∃ done S1 mm, k = m1.length - done.length ∧ IterIs Value.string wr (w.heap.size + 1) mb m1 done ∧ RmWith wr S1 w.heap.size (fun t => wantIds (walked (m.map fun e => (e.1, e.2.2)) done) t) mm ∧ (∀ x ∈ S1, x = w.heap.size ∨ w.heap.size + 2 ≤ x) ∧ Kept [] w wr)
  case atStart =>
    refine ⟨[], [w.heap.size], [], rfl, HI'.out, RmWith.new HB1.out, by simp, HK1.out⟩
  case round =>
    obtain ⟨done, S1, mm, hk, hI, hRm, hS1, hKr⟩ := hrel
    have HRM := Lib.hid hRm
    have HI1 := Lib.hid hI
    have HKR := Lib.hid hKr
    have HS1 := Lib.hid hS1
    clear hRm hI hKr hS1
    have hdl := HI1.out.left
    by_cases hd : done.length < m1.length
    · go_wp2_with (first | (refine wl_next rfl _ rfl (w.heap.size + 1) mb m1 done rfl HI1.out (fun e => absurd e (by omega)) ?_; intro i p w2 hp hi hI2 hK2 hs2; have HI2 := Lib.hid hI2; have HK2 := Lib.hid hK2; have HP := Lib.hid hp; clear hI2 hK2; obtain ⟨id, tops, ver, A, n, c, gen, rp, rfl, hsl, hpt⟩ := member_at HMV.out (hm1.symm ▸ hp); have HSL := Lib.hid hsl; have HPT := Lib.hid hpt; clear hsl hpt hp) | (refine wl_entry rfl _ rfl (w.heap.size + 1) mb m1 done i _ rfl HI2.out HP.out ?_))
      obtain ⟨W3, hW3⟩ : ∃ W3, W3 = w2.alloc (Obj.cells #[Value.int IntKind.i16 ver, Value.slice A n c, Value.slice none 0 0, Value.slice none 0 0, Value.int IntKind.i32 gen, Value.pointer rp] 79) := ⟨_, rfl⟩
      rw [← hW3]
      have hn : n = tops.length := by
        obtain ⟨A', n', c', e, h1, _⟩ := HSL.out
        injection e with e1 e2 e3
        subst e2
        have := h1.1
        simpa [strs] using this.symm
      subst hn
      have hK3 : Kept [] w2 W3 := by rw [hW3]; exact (Kept.refl _ _).alloc _
      have HKW3 : Hid (Kept [] w W3) := (HKR.out.trans HK2.out (fun x hx => .inr (by have := List.mem_singleton.1 hx; omega))).trans0 hK3
      have HRM3 : Hid (RmWith W3 S1 w.heap.size (fun t => wantIds (walked (m.map fun e => (e.1, e.2.2)) done) t) mm) := (HRM.out.kept HK2.out (fun x hx hm => by
        have h1 := List.mem_singleton.1 hm
        rcases HS1.out x hx with h | h <;> omega)).kept hK3 (fun _ _ => by simp)
      have HI3 : Hid (IterIs Value.string W3 (w.heap.size + 1) mb m1 (done ++ [i])) := HI2.out.kept hK3 (by simp) (by simp)
      clear hW3 hK3 HRM HK2 HI2
      obtain ⟨h0, hh0⟩ : ∃ h0, (fun t => wantIds (walked (m.map fun e => (e.1, e.2.2)) done) t) = h0 := ⟨_, rfl⟩
      rw [hh0] at HRM3
      have hb0 : ∀ t, (h0 t).length ≤ 7 := by
        intro t
        rw [← hh0]
        show (wantIds (walked (m.map fun e => (e.1, e.2.2)) done) t).length ≤ 7
        have h1 := (wantIds_sub (walked (m.map fun e => (e.1, e.2.2)) done) t).length_le
        have h2 : (walked (m.map fun e => (e.1, e.2.2)) done).length ≤ done.length := List.length_filterMap_le _ _
        rw [List.length_map] at h1
        have h3 : m1.length ≤ 7 := by rw [hm1l]; simpa using hl7
        omega
      have HB0 := Lib.hid hb0
      clear hb0
      have hndt : tops.Nodup := HND.out (id, tops) (List.mem_of_getElem? HPT.out)
      have HNDT := Lib.hid hndt
      have htl : tops.length ≤ 1000000 := HL2.out (id, tops) (List.mem_of_getElem? HPT.out)
      clear hndt
      go_loopg [28] tops.length (fun k x wv => ∃ j S2 mm2, k = tops.length - j ∧ j ≤ tops.length ∧ x = .int .i64 j ∧ IterIs Value.string wv (w.heap.size + 1) mb m1 (done ++ [i]) ∧ RmWith wv S2 w.heap.size (addTop h0 id (tops.take j)) mm2 ∧ (∀ x ∈ S2, x = w.heap.size ∨ w.heap.size + 2 ≤ x) ∧ Kept [] w wv)
      case atStart =>
        refine ⟨0, S1, mm, rfl, Nat.zero_le _, rfl, HI3.out, ?_, HS1.out, HKW3.out⟩
        rw [List.take_zero, addTop_nil]
        exact HRM3.out
      case round =>
        obtain ⟨j, S2, mm2, hk2, hj, rfl, hI4, hRm4, hS2, hK4⟩ := hrel
        have HI4 := Lib.hid hI4
        have HRM4 := Lib.hid hRm4
        have HS2 := Lib.hid hS2
        have HK4 := Lib.hid hK4
        clear hI4 hRm4 hS2 hK4
        by_cases hlt : j < tops.length
        · have hlt' : (j : Int) < (tops.length : Int) := by omega
          obtain ⟨t, ht⟩ : ∃ t, tops[j]? = some t := ⟨_, List.getElem?_eq_getElem hlt⟩
          obtain ⟨b0, off0, rfl, hct⟩ : ∃ b0 off0, A = some ⟨b0, off0, none⟩ ∧ wr.cell? ⟨b0, off0 + j, none⟩ = some (.string t) := by
            obtain ⟨A', n', c', e, h1, h2, _⟩ := HSL.out
            injection e with e1 e2 e3
            subst e1; subst e2; subst e3
            obtain ⟨b0, off0, hA, hcc⟩ := h1.2.2 (by omega)
            exact ⟨b0, off0, hA, HK4.out.cell (hcc j _ (by simp [strs, ht])) (by simp)⟩
          have hnt : t ∉ tops.take j := by
            have := keys_take (fun y : ByteArray => y) (l := tops) (by simpa using HNDT.out) j t ht
            simpa using this
          obtain ⟨u0, hu0⟩ : ∃ u0, (mget mm2 t).getD (.slice none 0 0) = u0 := ⟨_, rfl⟩
          have hrow := HRM4.out.row t
          rw [hu0] at hrow
          obtain ⟨zs, hzs⟩ : ∃ zs, addTop h0 id (tops.take j) t = zs := ⟨_, rfl⟩
          rw [hzs] at hrow
          have hzl : zs.length ≤ 7 := by
            rw [← hzs]
            have := HB0.out t
            simpa [addTop, hnt] using this
          have HROW := Lib.hid hrow
          have HT4 := Lib.hid ht
          have HNT := Lib.hid hnt
          have hmap4 := HRM4.out.map
          have HMAP4 := Lib.hid hmap4
          clear hrow ht hnt hmap4
          have hone1 : ∀ u ∈ [Value.string id], u.oneCell' = true := by simp [Value.oneCell']
          have hz63 : zs.length + 1 ≤ 9223372036854775807 := by omega
          have hzb : (zs.length + 1) * 16 ≤ 140737488355328 := by omega
          have hb00 : w.heap.size ∉ u0.ownBlock.toList := fun hm => own_map_ne HROW.out.1 HMAP4.out _ (by simpa using hm) rfl
          have HO := fun W (hk : Kept [] wr W) => own_kept0 HROW.out.1 hk
          go_wp2_with (first | (refine wl_lookup rfl _ _ 213 rfl 44 Tryz.underlying213 str9 (.slice none 0 0) (Tryz.zeroValue44 _) w.heap.size mm2 rfl HMAP4.out t rfl ?_; rw [hu0]) | (at_builtin; refine wl_append rfl _ _ 44 rfl 0 9 Tryz.underlying44 info9 rfl (by decide) u0 zs.length (strs zs) rfl (HO _ ((Kept.refl _ _).alloc _)) (some ⟨wr.heap.size, 0, none⟩) 1 1 [.string id] rfl (one_sl _ _ _) hone1 hz63 hzb (Nat.zero_le _) ?_; intro v' w4 hown hk4 hat; have HOWN := Lib.hid hown; have HK5 := Lib.hid hk4; have HAT := Lib.hid hat; clear hown hk4 hat) | (refine wl_update rfl _ _ _ 213 rfl 44 Tryz.underlying213 str9 w.heap.size mm2 rfl ((HMAP4.out.alloc _).kept HK5.out hb00) t rfl v' rfl ?_; intro w5 hM5 hK6 hs5; have HM5 := Lib.hid hM5; have HK6 := Lib.hid hK6; clear hM5 hK6))
          have hk14 : Kept u0.ownBlock.toList wr w4 := ((Kept.refl _ _).alloc _).trans HK5.out (fun x hx => .inl hx)
          have hu0lt : ∀ x ∈ u0.ownBlock.toList, x ∈ S2 := fun x hx => HROW.out.2 x (by simpa using hx)
          have hK15 : Kept S2 wr w5 := (hk14.mono hu0lt).trans HK6.out (fun x hx => .inl (by rw [List.mem_singleton.1 hx]; exact HRM4.out.bS))
          have hwsz : w.heap.size + 2 ≤ wr.heap.size := by have := HI4.out.lt; omega
          have hRm5 : RmWith w5 (v'.ownBlock.toList ++ S2) w.heap.size (addTop h0 id (tops.take (j + 1))) (mset mm2 t v') := by
            have h1 := HRM4.out.push t v' (zs ++ [id]) (by simp) (w1 := w4) (w2 := w5) (by
              have := HOWN.out
              rw [show strs (zs ++ [id]) = strs zs ++ [Value.string id] by simp [strs], List.length_append]
              exact this) (hu0.symm ▸ hk14) (by
              rw [hu0]
              rcases HAT.out with h | h
              · exact .inl h
              · exact .inr ⟨_, h, by simp⟩) HM5.out HK6.out
            rw [take_one HT4.out, ← addTop_snoc _ _ _ _ HNT.out, hzs]
            exact h1
          have hS5 : ∀ x ∈ v'.ownBlock.toList ++ S2, x = w.heap.size ∨ w.heap.size + 2 ≤ x := by
            intro x hx
            rcases List.mem_append.1 hx with hx | hx
            · rcases HAT.out with h | h
              · exact HS2.out x (hu0lt x (by rw [← h]; exact hx))
              · rw [h] at hx
                have : x = wr.heap.size + 1 := by simpa using hx
                exact .inr (by omega)
            · exact HS2.out x hx
          have hI5 : IterIs Value.string w5 (w.heap.size + 1) mb m1 (done ++ [i]) := HI4.out.kept hK15 (fun hm => by rcases HS2.out _ hm with h | h <;> omega) (fun hm => by rcases HS2.out _ hm with h | h <;> omega)
          have hK16 : Kept [] w w5 := HK4.out.trans hK15 (fun x hx => .inr (by rcases HS2.out x hx with h | h <;> omega))
          have HRM5 := Lib.hid hRm5
          have HS5 := Lib.hid hS5
          have HI5 := Lib.hid hI5
          have HK16 := Lib.hid hK16
          clear hk14 hu0lt hK15 hRm5 hS5 hI5 hK16
          go_roundg (tops.length - (j + 1))
          case measure => omega
          case rel => exact ⟨j + 1, _, _, rfl, by omega, rfl, HI5.out, HRM5.out, HS5.out, HK16.out⟩
        · obtain rfl : j = tops.length := by omega
          have hlt' : ¬ (tops.length : Int) < (tops.length : Int) := by omega
          have hRm6 : RmWith wr S2 w.heap.size (fun t => wantIds (walked (m.map fun e => (e.1, e.2.2)) (done ++ [i])) t) mm2 := by
            have h1 := HRM4.out
            rw [List.take_length, ← hh0, ← wantIds_snoc _ (id, tops)] at h1
            rw [walked_snoc HPT.out]
            exact h1
          have HRM6 := Lib.hid hRm6
          clear hRm6 HRM4
          go_wp2
          go_roundg (m1.length - (done ++ [i]).length)
          case measure =>
            rw [List.length_append]
            simp only [List.length_cons, List.length_nil]
            omega
          case rel => exact ⟨done ++ [i], S2, mm2, rfl, HI4.out, HRM6.out, HS2.out, HK4.out⟩
    · have hde : done.length = m1.length := by omega
      have hidn := HI1.out.2.1
      have hidl := HI1.out.2.2.1
      have hperm : (walked (m.map fun e => (e.1, e.2.2)) done).Perm (m.map fun e => (e.1, e.2.2)) := walked_perm hidn (fun i hi => by have := hidl i hi; rw [List.length_map]; omega) (by rw [List.length_map]; omega)
      have HPERM := Lib.hid hperm
      clear hidn hidl hperm
      obtain ⟨h0, hh0⟩ : ∃ h0, (fun t => wantIds (walked (m.map fun e => (e.1, e.2.2)) done) t) = h0 := ⟨_, rfl⟩
      rw [hh0] at HRM
      have HH0 := Lib.hid hh0
      have hwsz : w.heap.size + 2 ≤ wr.heap.size := by have := HI1.out.lt; omega
      have HMAPM := Lib.hid (HM.out.kept HKR.out (by simp))
      have HMAP := Lib.hid HRM.out.map
      clear hh0
      go_wp2_with (first | (refine wl_next rfl _ rfl (w.heap.size + 1) mb m1 done rfl HI1.out (fun _ => ?_) (fun i p w2 hp hi hI2 hK2 hs2 => absurd hI2.left (by rw [List.length_append]; simp only [List.length_cons, List.length_nil]; omega))) | (refine wl_len_map rfl _ 75 9 79 rfl Tryz.underlying75 mb m1 rfl HMAPM.out ?_) | (refine wl_range rfl _ 213 rfl 9 44 Tryz.underlying213 w.heap.size mm rfl (HMAP.out.alloc _) ?_; intro w2 hI hk1 hs2; have HI2 := Lib.hid hI; have HK2 := Lib.hid hk1; clear hI hk1))
      simp only [Act.put, List.setIfInBounds_toArray, List.set_cons_succ, List.set_cons_zero]
      obtain ⟨pb, hpb⟩ : ∃ pb, wr.heap.size = pb := ⟨_, rfl⟩
      have hsA2 : (wr.alloc (Obj.map #[] 0)).heap.size = pb + 1 := by simp [hpb]
      have hK02 : Kept [] wr w2 := ((Kept.refl _ _).alloc _).trans0 HK2.out
      have HI3 : Hid (IterIs Value.string w2 (pb + 1) w.heap.size mm []) := hsA2 ▸ HI2.out
      have HP3 : Hid (PlanIs w2 [pb] pb (fun _ _ => [])) := PlanIs.new (hpb ▸ (MapIs.new Value.string wr).kept HK2.out (by simp))
      have hrows : ∀ t u, (t, u) ∈ mm → w2.ownsRow 0 9 1 u (h0 t).length (strs (h0 t)) := (HRM.out.kept hK02 (by simp)).rows
      have hblk : ∀ t u g, (t, u) ∈ mm → u.ownBlock = some g → g < pb ∧ w.heap.size < g := by
        intro t u g hu hg
        have h1 := own_lt (HRM.out.rows t u hu) g hg
        have h2 := own_map_ne (HRM.out.rows t u hu) HRM.out.map g hg
        rcases HS1.out g (HRM.out.rowsS t u hu g hg) with h | h <;> omega
      have HKW : Hid (Kept [] w w2) := HKR.out.trans0 hK02
      have HROWS := Lib.hid hrows
      have HBLK := Lib.hid hblk
      have HAP := Lib.hid HRM.out.apart
      have HNIL := Lib.hid HRM.out.nil
      have HSOME := Lib.hid HRM.out.some'
      have hkn := HRM.out.map.nodup
      have HKN := Lib.hid hkn
      have hpbw : w.heap.size < pb := by omega
      have h07 : ∀ t, (h0 t).length ≤ 7 := by
        intro t
        rw [← HH0.out]
        show (wantIds (walked (m.map fun e => (e.1, e.2.2)) done) t).length ≤ 7
        have h1 := (wantIds_sub (walked (m.map fun e => (e.1, e.2.2)) done) t).length_le
        have h2 : (walked (m.map fun e => (e.1, e.2.2)) done).length ≤ done.length := List.length_filterMap_le _ _
        rw [List.length_map] at h1
        have h3 : m1.length ≤ 7 := by rw [hm1l]; simpa using hl7
        omega
      have h0nd : ∀ t, (h0 t).Nodup := by
        intro t
        rw [← HH0.out]
        show (wantIds (walked (m.map fun e => (e.1, e.2.2)) done) t).Nodup
        have h1 : ((m.map fun e => (e.1, e.2.2)).map Prod.fst).Nodup := by
          have := HM.out.nodup
          rw [← hm1, List.map_map] at this
          rw [List.map_map]
          exact this
        exact ((HPERM.out.map Prod.fst).nodup_iff.2 h1).sublist (wantIds_sub _ t)
      have H07 := Lib.hid h07
      have H0ND := Lib.hid h0nd
      rw [hsA2, hpb]
      clear hsA2 hK02 hrows hblk hkn h07 h0nd HI2 HK2 HRM HI1 HMAPM HMAP HKR
      clear hs2 hwsz hpb
      go_loopg [15] mm.length (fun k _ wr => ∃ done2 S2, k = mm.length - done2.length ∧ IterIs Value.string wr (pb + 1) w.heap.size mm done2 ∧ PlanIs wr S2 pb (fun k t => if t ∈ walked (mm.map Prod.fst) done2 then rangeOf (srt (h0 t)) (tget tm t) k else []) ∧ (∀ x ∈ S2, x = pb ∨ pb + 2 ≤ x) ∧ (∀ i, i ∉ done2 → ∀ t u, mm[i]? = some (t, u) → wr.ownsRow 0 9 1 u (h0 t).length (strs (h0 t))) ∧ Kept [] w wr)
      case atStart =>
        refine ⟨[], [pb], rfl, HI3.out, ?_, by simp, fun i _ t u hu => HROWS.out t u (List.mem_of_getElem? hu), HKW.out⟩
        simpa [walked] using HP3.out
      case round =>
        obtain ⟨done2, S2, hk2, hI4, hP4, hS4, hR4, hK4⟩ := hrel
        have HI4 := Lib.hid hI4
        have HP4 := Lib.hid hP4
        have HS4 := Lib.hid hS4
        have HR4 := Lib.hid hR4
        have HK4 := Lib.hid hK4
        clear hI4 hP4 hS4 hR4 hK4
        have hdl2 := HI4.out.left
        by_cases hd2 : done2.length < mm.length
        · go_wp2_with (first | (refine wl_next rfl _ rfl (pb + 1) w.heap.size mm done2 rfl HI4.out (fun e => absurd e (by omega)) ?_; intro i p w3 hp hi hI5 hK5 hs5; have HI5 := Lib.hid hI5; have HK5 := Lib.hid hK5; have HP := Lib.hid hp; have HNI := Lib.hid hi; clear hI5 hK5 hp hi) | (refine wl_entry rfl _ rfl (pb + 1) w.heap.size mm done2 i p rfl HI5.out HP.out ?_))
          obtain ⟨t, u⟩ := p
          have hmem : (t, u) ∈ mm := List.mem_of_getElem? HP.out
          have hown0 := HR4.out i HNI.out t u HP.out
          obtain ⟨g, cap, hu⟩ : ∃ g cap, u = .slice (some ⟨g, 0, none⟩) (h0 t).length cap := by
            rcases hown0.2 with ⟨_, h⟩ | ⟨g, cap, _, h, _⟩
            · exact absurd (List.eq_nil_of_length_eq_zero h) (HSOME.out t u hmem)
            · exact ⟨g, cap, h⟩
          subst hu
          have hgb := HBLK.out t _ g hmem rfl
          have hown : w3.ownsRow 0 9 1 (.slice (some ⟨g, 0, none⟩) (h0 t).length cap) (h0 t).length (strs (h0 t)) := HK5.out.own hown0 (fun g' hg' hm => by
            have h1 : g = g' := by simpa [Value.ownBlock] using hg'
            have h2 := List.mem_singleton.1 hm
            omega)
          have hK35 : Kept [] w w3 := HK4.out.trans HK5.out (fun x hx => .inr (by have := List.mem_singleton.1 hx; omega))
          have hXg : ∀ x, X x → x ∉ [g] := fun x hx hm => by
            have h1 := HX.out x hx
            have h2 := List.mem_singleton.1 hm
            omega
          have hn1 : 1 ≤ (h0 t).length := by
            have := HSOME.out t _ hmem
            cases hq : h0 t with
            | nil => exact absurd hq this
            | cons => simp
          have hn7 := H07.out t
          have HOWN := Lib.hid hown
          have HK35 := Lib.hid hK35
          clear hown0 hown hK35
          refine wp_region_effs' 12 (Kept [g]) (rgE g) (rgPre (.slice (some ⟨g, 0, none⟩) (h0 t).length cap) (h0 t)) (rgF bs pb tb t (.slice (some ⟨g, 0, none⟩) (h0 t).length cap) (h0 t) X (tget tm t)) mixed (by kernel_rfl) ((Kept.refl _ _).drew) (fun i _ _ _ h k => rgE_R h k) (fun i _ _ => HOWN.out) (rgF_stable hXg) rgPre_stable ?_ ?_
          · refine ⟨?_, ?_, ?_, ?_, ?_, ?_, ?_, ?_, ?_, ?_, ?_, ?_, trivial⟩
            all_goals go_light
            all_goals intro a W hR hpre hs hd
            all_goals have p0 : a.tmps[0]? = some (.pointer (some ⟨bs, 0, none⟩)) := hs.2.2 0 (by decide)
            all_goals have p14 : a.tmps[14]? = some (.map (some pb)) := hs.2.2 14 (by decide)
            all_goals have p13 : a.tmps[13]? = some (.func (.func 148) #[] #[]) := hs.2.2 13 (by decide)
            all_goals have p16 : a.tmps[16]? = some (.slice (some ⟨g, 0, none⟩) (h0 t).length cap) := hs.2.2 16 (by decide)
            all_goals have p15 : a.tmps[15]? = some (.string t) := hs.2.2 15 (by decide)
            all_goals have p2 : a.tmps[2]? = some (.map (some tb)) := hs.2.2 2 (by decide)
            all_goals have hRr : Kept [] W W := Kept.refl [] W
            all_goals have hKwW : Kept [] w W := HK35.out.trans hR (fun x hx => .inr (by have := List.mem_singleton.1 hx; omega))
            all_goals have hcW : W.cell? ⟨bs, 0, none⟩ = some (.func (.func 72) #[] #[]) := hKwW.cell HC.out (by simp)
            · refine ow_value (w' := W) (v := .pointer (some ⟨bs, 0, none⟩)) ?_ (.mk hRr rfl rfl)
              simp [go_sem, p0]
            · have q0 : _ = _ := hd.1 rfl
              refine ow_value (w' := W) (v := .pointer (some ⟨bs, 0, none⟩)) ?_ (.mk hRr rfl rfl)
              simp [go_sem, q0]
            · have q1 : _ = _ := hd.1 rfl
              refine ow_value (w' := W) (v := .pointer (some ⟨bs, 0, none⟩)) ?_ (.mk hRr rfl rfl)
              simp [go_sem, q1]
            · have q2 : _ = _ := hd.1 rfl
              refine ow_value (w' := W) (v := .func (.func 72) #[] #[]) ?_ (.mk hRr rfl rfl)
              simp [go_sem, q2, hcW]
            · refine ow_value (w' := W) (v := .map (some pb)) ?_ (.mk hRr rfl rfl)
              simp [go_sem, p14]
            · refine ow_value (w' := W) (v := .func (.func 148) #[] #[]) ?_ (.mk hRr rfl rfl)
              simp [go_sem, p13]
            · refine ow_value (w' := W) (v := .slice (some ⟨g, 0, none⟩) (h0 t).length cap) ?_ (.mk hRr rfl rfl)
              simp [go_sem, p16]
            · have q5 : _ = _ := hd.1 rfl
              have q6 : _ = _ := hd.2.1 rfl
              have hc := uniq_own g (h0 t).length cap (h0 t) W (hpre rfl) (H0ND.out t) hn1 (by omega)
              refine ow_call (w' := W) (f := 148) (args := #[.slice (some ⟨g, 0, none⟩) (h0 t).length cap]) (by simp [go_sem, q5, q6]) hc ?_
              rintro e w'' ⟨rfl, l', h1, h2, h3⟩
              exact ⟨_, rfl, .mk h3 ⟨l', rfl, h1, h2⟩ rfl⟩
            · refine ow_value (w' := W) (v := .string t) ?_ (.mk hRr rfl rfl)
              simp [go_sem, p15]
            · refine ow_value (w' := W) (v := .map (some tb)) ?_ (.mk hRr rfl rfl)
              simp [go_sem, p2]
            · refine ow_value (w' := W) (v := .string t) ?_ (.mk hRr rfl rfl)
              simp [go_sem, p15]
            · have q9 : _ = _ := hd.1 rfl
              have q10 : _ = _ := hd.2.1 rfl
              obtain ⟨_, mt, hMt, hmt, hvt⟩ := HT.out.kept (HK35.out.trans hR (fun x hx => .inr (by have := List.mem_singleton.1 hx; omega))) (by simp)
              have hl := (MapIs.run_lookup (P := Tryz.prog) str9 Tryz.underlying89 hMt (z := .slice none 0 0) (Tryz.zeroValue49 W) t)
              have hg := tget_get t mt (fun e he => (hvt e he).mono (fun x hx => hx.1))
              rw [hmt] at hg
              refine ow_value (w' := W) (v := (mget (mt.map fun (e : ByteArray × Value × List Int) => (e.1, e.2.1)) t).getD (.slice none 0 0)) ?_ (.mk hRr hg rfl)
              simp [go_sem, q9, q10, hl]
          · intro f W hR hf
            obtain ⟨f0, f1, f2, f3, f4, f5, f6, f7, f8, f9, f10, f11, -⟩ := hf
            change f 51 = _ at f0
            change f 52 = _ at f1
            change f 53 = _ at f2
            change f 54 = _ at f3
            change f 55 = _ at f4
            change f 56 = _ at f5
            change f 57 = _ at f6
            change ∃ l', (f 58) = .slice (some ⟨g, 0, none⟩) (h0 t).length cap ∧ l'.Perm (h0 t) ∧ W.ownsRow 0 9 1 (.slice (some ⟨g, 0, none⟩) (h0 t).length cap) (h0 t).length (strs l') at f7
            obtain ⟨x7, g7⟩ : ∃ x, f 58 = x := ⟨_, rfl⟩
            rw [g7] at f7
            change f 59 = _ at f8
            change f 60 = _ at f9
            change f 61 = _ at f10
            change SlAt W X 1 (f 62) (ints (tget tm t)) at f11
            obtain ⟨x11, g11⟩ : ∃ x, f 62 = x := ⟨_, rfl⟩
            rw [g11] at f11
            simp only [headDsts, List.take_succ_cons, List.take_zero, List.filterMap_cons, List.filterMap_nil, setAll, f0, f1, f2, f3, f4, f5, f6, g7, f8, f9, f10, g11, List.setIfInBounds_toArray, List.set_cons_succ, List.set_cons_zero, List.drop_succ_cons, List.drop_zero]
            clear f0 f1 f2 f3 f4 f5 f6 g7 f8 f9 f10 g11 f
            obtain ⟨l', rfl, hpm, hol⟩ := f7
            obtain ⟨F, hF⟩ : ∃ F, (fun k t => if t ∈ walked (mm.map Prod.fst) done2 then rangeOf (srt (h0 t)) (tget tm t) k else []) = F := ⟨_, rfl⟩
            have hS2g : ∀ x, x ∈ S2 → x ∉ [g] := fun x hx hm => by
              have h2 := List.mem_singleton.1 hm
              rcases HS4.out x hx with h | h <;> omega
            have hPW : PlanIs W S2 pb F := by
              rw [← hF]
              refine (HP4.out.kept HK5.out (fun x hx hm => ?_)).kept hR hS2g
              have h2 := List.mem_singleton.1 hm
              rcases HS4.out x hx with h | h <;> omega
            have hFl : ∀ k t, (F k t).length ≤ 1000000 := by
              intro k t
              rw [← hF]
              show (if t ∈ walked (mm.map Prod.fst) done2 then rangeOf (srt (h0 t)) (tget tm t) k else []).length ≤ 1000000
              split
              · unfold rangeOf
                split
                · exact Nat.le_trans (rpart_len _ _ _) (HTM.out t)
                · simp
              · simp
            have hgS : g ∉ S2 := fun hm => hS2g g hm (by simp)
            have hszW := hR.size
            have hpsz : pb + 2 ≤ w3.heap.size := by have := HI5.out.lt; omega
            have hXS : ∀ x, X x → x ∉ S2 ∧ x ≠ g ∧ x < W.heap.size := fun x hx => by
              have h1 := HX.out x hx
              refine ⟨fun hm => ?_, by omega, by omega⟩
              rcases HS4.out x hm with h | h <;> omega
            have hcore := rangeCore_any S2 pb F g (h0 t).length cap l' t x11 X (tget tm t) W hPW hol hgS f11 hXS hn1 hn7 (HTM.out t) hFl
            have HCORE := Lib.hid hcore
            have HR := Lib.hid hR
            clear hcore hPW hol hgS f11 hXS hFl hR
            go_wp2_with (with_reducible refine HCORE.out.mono ?_; rintro e w4 ⟨rfl, S3, hP3, hK3, hS3⟩; have HP3 := Lib.hid hP3; have HK3 := Lib.hid hK3; have HS3 := Lib.hid hS3; clear hP3 hK3 hS3)
            have hsrt : srt l' = srt (h0 t) := srt_of_perm hpm
            have hlen : (srt (h0 t)).length = (h0 t).length := srt_len _
            have hki : (mm.map Prod.fst)[i]? = some t := by rw [List.getElem?_map, HP.out]; rfl
            have htn : t ∉ walked (mm.map Prod.fst) done2 := by
              intro hm
              obtain ⟨j, hj, hjt⟩ := List.mem_filterMap.1 hm
              have hjl : j < (mm.map Prod.fst).length := (List.getElem?_eq_some_iff.1 hjt).1
              have := (List.getElem?_inj hjl HKN.out).1 (hjt.trans hki.symm)
              exact HNI.out (this ▸ hj)
            have hPn : PlanIs w4 S3 pb (fun k t' => if t' ∈ walked (mm.map Prod.fst) (done2 ++ [i]) then rangeOf (srt (h0 t')) (tget tm t') k else []) := by
              have h1 := HP3.out
              rw [hsrt, ← hlen] at h1
              rw [show (fun k t' => if t' ∈ walked (mm.map Prod.fst) (done2 ++ [i]) then rangeOf (srt (h0 t')) (tget tm t') k else []) = rfold F (srt (h0 t)) t (tget tm t) (srt (h0 t)).length (srt (h0 t)).length from ?_]
              · exact h1
              · funext k s
                rw [rfold_all F (srt (h0 t)) t (tget tm t) (srt_nodup (H0ND.out t)) (fun k => by rw [← hF]; simp [htn]) k s, walked_snoc hki]
                by_cases hst : s = t
                · subst hst
                  simp
                · rw [← hF]
                  simp [hst]
            have hK34 : Kept (g :: S2) w3 w4 := (HR.out.mono (fun x hx => by rw [List.mem_singleton.1 hx]; exact .head _)).trans HK3.out (fun x hx => .inl hx)
            have hIn : IterIs Value.string w4 (pb + 1) w.heap.size mm (done2 ++ [i]) := HI5.out.kept hK34 (fun hm => by
              rcases List.mem_cons.1 hm with h | h
              · omega
              · rcases HS4.out _ h with h | h <;> omega) (fun hm => by
              rcases List.mem_cons.1 hm with h | h
              · omega
              · rcases HS4.out _ h with h | h <;> omega)
            have hSn : ∀ x ∈ S3, x = pb ∨ pb + 2 ≤ x := fun x hx => by
              rcases HS3.out x hx with h | h
              · exact HS4.out x h
              · exact .inr (by omega)
            have hRn : ∀ i', i' ∉ done2 ++ [i] → ∀ t u, mm[i']? = some (t, u) → w4.ownsRow 0 9 1 u (h0 t).length (strs (h0 t)) := by
              intro i' hi' t' u' hu'
              have h1 := HR4.out i' (fun h => hi' (List.mem_append_left _ h)) t' u' hu'
              have hm' : (t', u') ∈ mm := List.mem_of_getElem? hu'
              have h2 := HK5.out.own h1 (fun g' hg' hm => by
                have h2 := List.mem_singleton.1 hm
                have h3 := HBLK.out t' u' g' hm' hg'
                omega)
              refine hK34.own h2 (fun g' hg' hm => ?_)
              have h3 := HBLK.out t' u' g' hm' hg'
              rcases List.mem_cons.1 hm with h | h
              · subst h
                have h4 := HAP.out t' u' t _ g' hm' hmem hg' rfl
                subst h4
                have hki' : (mm.map Prod.fst)[i']? = some t' := by rw [List.getElem?_map, hu']; rfl
                have hjl : i' < (mm.map Prod.fst).length := (List.getElem?_eq_some_iff.1 hki').1
                have := (List.getElem?_inj hjl HKN.out).1 (hki'.trans hki.symm)
                exact hi' (by rw [this]; simp)
              · rcases HS4.out _ h with h | h <;> omega
            have hKn : Kept [] w w4 := HK35.out.trans hK34 (fun x hx => .inr (by
              rcases List.mem_cons.1 hx with h | h
              · omega
              · rcases HS4.out _ h with h | h <;> omega))
            have HPN := Lib.hid hPn
            have HIN := Lib.hid hIn
            have HSN := Lib.hid hSn
            have HRN := Lib.hid hRn
            have HKNN := Lib.hid hKn
            clear hPn hIn hSn hRn hKn hK34 htn hki
            go_roundg (mm.length - (done2 ++ [i]).length)
            case measure =>
              rw [List.length_append]
              simp only [List.length_cons, List.length_nil]
              omega
            case rel => exact ⟨done2 ++ [i], S3, rfl, HIN.out, HPN.out, HSN.out, HRN.out, HKNN.out⟩
        · have hde2 : done2.length = mm.length := by omega
          have hPn : PlanIs wr S2 pb (rangePlan (m.map fun e => (e.1, e.2.2)) tm) := by
            have h1 := HP4.out
            rw [show rangePlan (m.map fun e => (e.1, e.2.2)) tm = (fun k t => if t ∈ walked (mm.map Prod.fst) done2 then rangeOf (srt (h0 t)) (tget tm t) k else []) from ?_]
            · exact h1
            · funext k t
              have h2 : (walked (mm.map Prod.fst) done2).Perm (mm.map Prod.fst) := walked_perm HI4.out.2.1 (fun i hi => by have := HI4.out.2.2.1 i hi; rw [List.length_map]; omega) (by rw [List.length_map]; omega)
              have h3 : srt (wantIds (m.map fun e => (e.1, e.2.2)) t) = srt (h0 t) := by
                rw [← HH0.out]
                exact (srt_of_perm (wantIds_perm HPERM.out t)).symm
              show rangeOf (srt (wantIds (m.map fun e => (e.1, e.2.2)) t)) (tget tm t) k = _
              rw [h3]
              by_cases ht : t ∈ mm.map Prod.fst
              · rw [if_pos (h2.mem_iff.2 ht)]
              · rw [if_neg (fun h => ht (h2.mem_iff.1 h)), HNIL.out t ht]
                simp [rangeOf, srt]
          have HPN := Lib.hid hPn
          clear hPn
          go_wp2_with (refine wl_next rfl _ rfl (pb + 1) w.heap.size mm done2 rfl HI4.out (fun _ => ?_) (fun i p w2 hp hi hI2 hK2 hs2 => absurd hI2.left (by rw [List.length_append]; simp only [List.length_cons, List.length_nil]; omega)))
          refine bodyPost_ret (results_tmp2 rfl _ _ _) rfl ?_
          exact ⟨pb, S2, rfl, HPN.out, fun x hx => by rcases HS4.out x hx with h | h <;> omega, HK4.out⟩

end Go.Proofs.YtghgffhcdnmpnaaGreat
