/-
  (*roundRobinBalancer).Plan. Conditions: what a plan is told; topics with one to ten thousand partitions below a hundred.
-/
import Derived.Test.YtghgffhcdnmpnaaGreatZL1
import Derived.Test.YtghgffhcdnmpnaaGreatZK1
import Derived.Test.YtghgffhcdnmpnaaGreatZF1
namespace Go.Proofs.YtghgffhcdnmpnaaGreat
open Go.RowKit Go.Sort
theorem wl_len_map_w {P : Program} {ops : Array Oper} {Q : Exit → Act → World → Prop} {o : Oper} {rest : List Oper} {a : Act} {w : World} (hw : Region.wanted o (yielded ops a.tmps) = true) (x : Operand) (t kt et : TypeId) (hop : o.op = Op.call { callee := .builtin .len, args := #[x], argTypes := #[t] }) (ht : P.underlying t = some (.map kt et))
    {κ : Type} {enc : κ → Value} (b : Nat) (m : List (κ × Value)) (hx : a.eval x = .map (some b)) (hM : MapIs enc w b m) (h : wpList P ops Q rest (a.put o.dst (.int .i64 m.length)) w) : wpList P ops Q (o :: rest) a w := by
  obtain ⟨es, cl, hb, hs, he⟩ := hM
  have hl : es.size = m.length := by have := congrArg List.length he; simpa using this
  have hr : (Builtin.len_ #[t] o.type #[.map (some b)]).run P w = .ok (goInt es.size) w := by
    simp [Builtin.len_, run_underlying ht, run_getObj_map w b es cl hb]
  rw [← hl] at h
  refine BigFrame.wpList_want hw fun K hK => ?_
  unfold Oper.wp
  rw [show (execOp a.eval o).run P w = .ok (.value (goInt es.size)) w by simp [execOp, hop, resolve, invoke, builtin, hx, hr, Result.andThen, goInt]]
  exact hK _ _ h
/-- Pairs of a topic and its partitions. -/
def pairsOf (L : List (ByteArray × List Int)) : List (ByteArray × Int) := L.flatMap fun x => x.2.map fun p => (x.1, p)
theorem pairsOf_snoc (L : List (ByteArray × List Int)) (x : ByteArray × List Int) : pairsOf (L ++ [x]) = pairsOf L ++ x.2.map fun p => (x.1, p) := by simp [pairsOf]
theorem pairsOf_len {L : List (ByteArray × List Int)} (h : ∀ x ∈ L, x.2.length ≤ 10000) : (pairsOf L).length ≤ L.length * 10000 := by
  induction L with
  | nil => simp [pairsOf]
  | cons x L ih =>
    have h1 := ih (fun y hy => h y (.tail _ hy))
    have h2 := h x (.head _)
    have h3 : pairsOf (x :: L) = (x.2.map fun p => (x.1, p)) ++ pairsOf L := by simp [pairsOf]
    rw [h3, List.length_append, List.length_map, List.length_cons]
    omega
theorem topic_at {w : World} {X : Nat → Prop} {m : List (ByteArray × Value × List Int)} (hmv : ∀ e ∈ m, SlAt w X 1 e.2.1 (ints e.2.2)) {i : Nat} {p : ByteArray × Value} (hp : (m.map fun e => (e.1, e.2.1))[i]? = some p) :
    ∃ t ps A n c, p = (t, .slice A n c) ∧ n = List.length ps ∧ SlIs w 1 A n (ints ps) ∧ (m.map fun e => (e.1, e.2.2))[i]? = some (t, ps) := by
  rw [List.getElem?_map] at hp
  cases he : m[i]? with
  | none => rw [he] at hp; cases hp
  | some e =>
    rw [he] at hp
    obtain ⟨A, n, c, h3, h4, _⟩ := hmv e (List.mem_of_getElem? he)
    obtain ⟨t, v, ps⟩ := e
    simp only at h3 h4
    subst h3
    refine ⟨t, ps, A, n, c, (Option.some.inj hp).symm, ?_, h4, by rw [List.getElem?_map, he]; rfl⟩
    have := h4.1
    simpa [ints] using this.symm
theorem ints_at' {l : List Int} {k : Nat} {y : Int} (h : l[k]? = some y) : (ints l)[k]? = some (.int .i32 y) := by simp [ints, h]
/-- Members in a row of one's own: their names, their topics. -/
structure Mts (w : World) (B : Nat) (v : Value) (T : List (ByteArray × Nat × List ByteArray)) : Prop where
  row : w.ownsRow B 242 2 v T.length ((T.map fun e => (e.1, e.2.1)).flatMap mtCells)
  sets : ∀ e ∈ T, B ≤ e.2.1 ∧ TopsIn w e.2.1 e.2.2
theorem Mts.kept {S : List Nat} {w w' : World} {B : Nat} {v : Value} {T : List (ByteArray × Nat × List ByteArray)} (h : Mts w B v T) (k : Kept S w w') (h1 : ∀ b, v.ownBlock = some b → b ∉ S) (h2 : ∀ e ∈ T, e.2.1 ∉ S) : Mts w' B v T :=
  ⟨k.own h.row h1, fun e he => ⟨(h.sets e he).1, (h.sets e he).2.kept k (h2 e he)⟩⟩
theorem Mts.kept0 {w w' : World} {B : Nat} {v : Value} {T : List (ByteArray × Nat × List ByteArray)} (h : Mts w B v T) (k : Kept [] w w') : Mts w' B v T := h.kept k (by simp) (by simp)
/-- Back from the images of a list put in another order. -/
theorem perm_back {α β : Type} (f : α → β) {a b : List β} (h : a.Perm b) : ∀ T : List α, T.map f = b → ∃ T' : List α, T'.Perm T ∧ T'.map f = a := by
  induction h with
  | nil =>
    intro T hT
    have : T = [] := by simpa using hT
    subst this
    exact ⟨[], .nil, rfl⟩
  | cons x _ ih =>
    intro T hT
    match T, hT with
    | t :: T, hT =>
      simp only [List.map_cons, List.cons.injEq] at hT
      obtain ⟨T', h1, h2⟩ := ih T hT.2
      exact ⟨t :: T', h1.cons t, by rw [List.map_cons, hT.1, h2]⟩
  | swap x y l =>
    intro T hT
    match T, hT with
    | s :: t :: T, hT =>
      simp only [List.map_cons, List.cons.injEq] at hT
      exact ⟨t :: s :: T, List.Perm.swap s t T, by rw [List.map_cons, List.map_cons, hT.1, hT.2.1, hT.2.2]⟩
  | trans _ _ ih1 ih2 =>
    intro T hT
    obtain ⟨T2, h1, h2⟩ := ih2 T hT
    obtain ⟨T3, h3, h4⟩ := ih1 T2 h2
    exact ⟨T3, h3.trans h1, h4⟩
theorem rnext_hit (l : List (ByteArray × List ByteArray)) (t : ByteArray) : ∀ n i j, i ≤ j → j < i + n → (∀ q, i ≤ q → q < j → wantsAt l t q = false) → wantsAt l t j = true → rnext l t n i = j
  | 0, i, j, h1, h2, _, _ => by omega
  | n + 1, i, j, h1, h2, h3, h4 => by
    rw [rnext_succ]
    rcases Nat.eq_or_lt_of_le h1 with rfl | h
    · rw [if_pos h4]
    · rw [if_neg (by rw [h3 i (Nat.le_refl _) h]; simp)]
      exact rnext_hit l t n (i + 1) j h (by omega) (fun q h5 h6 => h3 q (by omega) h6) h4
theorem rnext_miss (l : List (ByteArray × List ByteArray)) (t : ByteArray) : ∀ n i, (∀ q, i ≤ q → q < i + n → wantsAt l t q = false) → rnext l t n i = i + n
  | 0, i, _ => rfl
  | n + 1, i, h => by
    rw [rnext_succ, if_neg (by rw [h i (Nat.le_refl _) (by omega)]; simp), rnext_miss l t n (i + 1) (fun q h5 h6 => h q (by omega) (by omega))]
    omega
theorem PlanIs.cut {w : World} {S : List Nat} {b : Nat} {f : ByteArray → ByteArray → List Int} (h : PlanIs w S b f) : PlanIs w (S.filter fun x => decide (x < w.heap.size)) b f := by
  obtain ⟨ks, I, M, h⟩ := h
  refine ⟨ks, I, M, ⟨?_, h.outer, h.inner, ?_, h.apart, h.rows, ?_, h.rapart, h.nil⟩⟩
  · exact List.mem_filter.2 ⟨h.bS, by simpa using h.outer.lt⟩
  · exact fun k hk => ⟨List.mem_filter.2 ⟨(h.innerS k hk).1, by simpa using (h.inner k hk).lt⟩, (h.innerS k hk).2⟩
  · exact fun k hk t u hu g hg => List.mem_filter.2 ⟨h.rowsS k hk t u hu g hg, by simpa using own_lt (h.rows k hk t u hu) g hg⟩
def rr31F (g2 n2 c2 i r B I : Nat) (id : ByteArray) (ix : Nat) (v : Value) (W : World) : Prop :=
  match ix with
  | 0 => v = .slice (some ⟨g2, 0, none⟩) n2 c2
  | 1 => v = .int .i64 i
  | 2 => v = .int .i64 n2
  | 3 => v = .int .i64 r
  | 4 => v = .pointer (some ⟨g2, r * 2, none⟩)
  | 5 => v = .agg #[Value.map (some I), .string id]
  | 6 => ∃ b, v = .pointer (some ⟨b, 0, none⟩) ∧ W.heap[b]? = some (.cells #[.map none, .string ⟨#[]⟩] 242 (0, 0)) ∧ B ≤ b
  | _ => True
theorem rr31F_stable {g2 n2 c2 i r B I id} : ∀ ix v w w', rr31F g2 n2 c2 i r B I id ix v w → Kept [] w w' → rr31F g2 n2 c2 i r B I id ix v w' := by
  intro ix v w w' h k2
  unfold rr31F at h ⊢
  split at h <;> (first | (exact h) | (obtain ⟨b, h1, h2, h3⟩ := h; exact ⟨b, h1, k2.heap h2 (by simp), h3⟩))
theorem info237 : (Tryz.prog.info? 237).map (fun i => (i.zero, i.size, i.bytes)) = some (some (.agg #[.string ⟨#[]⟩, .int .i32 0]), 2, 24) := by kernel_rfl
theorem info242 : (Tryz.prog.info? 242).map (fun i => (i.zero, i.size, i.bytes)) = some (some (.agg #[.map none, .string ⟨#[]⟩]), 2, 24) := by kernel_rfl
end Go.Proofs.YtghgffhcdnmpnaaGreat
