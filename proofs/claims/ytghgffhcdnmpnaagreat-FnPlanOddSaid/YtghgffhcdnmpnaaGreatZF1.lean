/-
  sameParts, SamePlan: whether two plans are one. Conditions: none.
-/
import Derived.Test.YtghgffhcdnmpnaaGreatZE5
import Derived.ArgAppend
import Derived.BigGuard
import Derived.Deep.CutRange
namespace Go.Proofs.YtghgffhcdnmpnaaGreat
open Go.RowKit Go.Sort
theorem ints_at {l : List Int} {k : Nat} {y : Int} (h : l[k]? = some y) : (ints l)[k]? = some (.int .i32 y) := by simp [ints, h]
theorem beq_self {s : ByteArray} : (s.toList == s.toList) = true := by simp
end Go.Proofs.YtghgffhcdnmpnaaGreat
/-
  Facts for share: slices cut short, an append onto a slice without room, the new share's region. Conditions: those of each lemma.
-/
namespace Go.Proofs.YtghgffhcdnmpnaaGreat
open Go.RowKit Go.Sort
theorem run_slice_from {P : Program} {w : World} {X : Nat → Prop} {t e : TypeId} {A : Option Addr} {m c : Nat} {xs : List Value} {sz : Nat} (ht : P.underlying t = some (.slice e)) (hi : (P.info? e).map (·.size) = some sz) (h : SlAt w X sz (.slice A m c) xs) (lo : Nat) (h1 : lo ≤ m) :
    ∃ v', (Instr.sliceAt t (.slice A m c) (some (.int .i64 lo)) none none).run P w = .ok v' w ∧ SlAt w X sz v' (xs.drop (lo * sz)) := by
  obtain ⟨v', hr, hat⟩ := run_slice_subN ht hi h lo m h1 (Nat.le_refl _)
  have hcm : m ≤ c := by
    obtain ⟨A', n', c', he, _, _, hc⟩ := h
    cases he
    exact hc
  have hlen : xs.length = m * sz := by
    obtain ⟨A', n', c', he, hs, _, _⟩ := h
    cases he
    exact hs.1
  have hel : P.elem t = e := by simp [Program.elem, ht]
  have ht' : P.underlying t = some (.slice (P.elem t)) := by rw [hel, ht]
  refine ⟨v', ?_, by rw [List.take_of_length_le (by omega)] at hat; exact hat⟩
  rw [← hr, run_sliceAt_slice (P := P) (w := w) t _ _ _ _ ht', run_sliceAt_slice (P := P) (w := w) t _ _ _ _ ht', run_slice_l (P := P) (w := w) t _ _ _ ht' _ _ (by omega) (by omega), run_slice_lh (P := P) (w := w) t _ _ _ ht' _ _ _ _ (by omega) (by omega) (by omega)]
  simp
theorem run_append_row_grows {P : Program} {w : World} {ty : TypeId} (t e : TypeId) {z : Value} {size bytes : Nat} (ht : P.underlying t = some (.slice e)) (hinfo : (P.info? e).map (fun i => (i.zero, i.size, i.bytes)) = some (some z, size, bytes)) (hzs : z.cells.size = size) (hsz : 0 < size)
    {b : Addr} {n cap : Nat} {olds : List Value} (hA : SlIs w size (some b) n olds) (hcap : cap ≤ n) {A2 : Option Addr} {m c : Nat} {news : List Value} (hB : SlIs w size A2 m news) (h1 : 1 ≤ m) (hs : n + m ≤ 1000000) (hby : bytes ≤ 1000) :
    ∃ v' w', (Builtin.append_ #[t, t] ty #[.slice (some b) n cap, .slice A2 m c]).run P w = .ok v' w' ∧ w'.ownsRow w.heap.size e size v' (n + m) (olds ++ news) ∧ w.grownBy w' none := by
  obtain ⟨i, hi, h2⟩ := Option.map_eq_some_iff.1 hinfo
  simp only [Prod.mk.injEq] at h2
  obtain ⟨hz, hsize, hbytes⟩ := h2
  obtain ⟨b2, o2, rfl, hc2⟩ := hB.2.2 (by omega)
  have hadd : ∀ (b o j : Nat), (⟨b, o, none⟩ : Addr).add j = ⟨b, o + j, none⟩ := fun b o j => by unfold Addr.add; split <;> simp_all
  refine run_append_arg_grows (P := P) w t ty e i z size bytes ht hi hz hsize hbytes hzs hsz b n cap olds hA.1 (fun j u hj => ?_) ⟨b2, o2, none⟩ m c news hB.1 (fun j u hj => by rw [hadd]; exact hc2 j u hj) (by omega) (by simp only [maxLen]; omega) ?_
  · rcases Nat.eq_zero_or_pos n with h0 | h0
    · have h3 := hA.1
      have h4 := (List.getElem?_eq_some_iff.1 hj).1
      rw [h0] at h3
      omega
    · obtain ⟨b1, o1, he, hc1⟩ := hA.2.2 h0
      cases he
      rw [hadd]
      exact hc1 j u hj
  · exact Nat.le_trans (Nat.mul_le_mul hs hby) (by decide)
theorem ow_append_at {P : Program} {o : Oper} {a : Act} {w w' : World} {v u v' : Value} {Q : Exit → Act → World → Prop} {K : Act → World → Prop} (s x : Operand) (t : TypeId) (ho : o.op = .call { callee := .builtin .append, args := #[s, x], argTypes := #[t, t] })
    (hs : a.eval s = v) (hx : a.eval x = u) (hr : (Builtin.append_ #[t, t] o.type #[v, u]).run P w = .ok v' w') (h : K (a.put o.dst v') w') : o.wp P a w K Q := by
  unfold Oper.wp execOp
  simp only [ho, resolve, invoke, builtin, Sem.run_bind, Sem.run_pure, Result.andThen_ok, List.map_toArray, List.map_cons, List.map_nil, hs, hx, hr]
  exact h
/-- A row just laid. -/
theorem own_new (w : World) (e : TypeId) (s n : Nat) (cs : Array Value) (base : Nat) (hb : base ≤ w.heap.size) (hn : n ≤ 100) (hs : cs.size = n * s) {k : Nat} (hk : w.heap.size = k) : (w.alloc (.cells cs e)).ownsRow base e s (.slice (some ⟨k, 0, none⟩) n n) n cs.toList := by
  subst hk
  exact World.ownsRow_lit w cs n hb (by simp [maxLen]; omega) hs
theorem own_row {w : World} {base : Nat} {e : TypeId} {s n c : Nat} {A : Option Addr} {xs : List Value} (h : w.ownsRow base e s (.slice A n c) n xs) (hn : 0 < n) : ∃ g, A = some ⟨g, 0, none⟩ := by
  rcases h.2 with ⟨h1, h2⟩ | ⟨g, cap, cur, h1, _⟩
  · omega
  · injection h1 with h1
    exact ⟨g, h1⟩
theorem own_slis {w : World} {base : Nat} {e : TypeId} {s n c : Nat} {A : Option Addr} {xs : List Value} (h : w.ownsRow base e s (.slice A n c) n xs) : SlIs w s A n xs := by
  obtain ⟨A', c', he, hs, _⟩ := own_sl h
  cases he
  exact hs
end Go.Proofs.YtghgffhcdnmpnaaGreat
/-
  share: a partition put into a plan in order. Conditions: a plan in memory that the caller owns.
-/
namespace Go.Proofs.YtghgffhcdnmpnaaGreat
open Go.RowKit Go.Sort
/-- A plan in memory of one's own. -/
structure PlanV (w : World) (base : Nat) (v : Value) (L : List (Sh × Value)) : Prop where
  row : w.ownsRow base 53 3 v L.length (shFlat L)
  parts : ∀ p ∈ L, w.ownsRow base 21 1 p.2 p.1.parts.length (ints p.1.parts)
  few : L.length ≤ 100000
  short : ∀ p ∈ L, p.1.parts.length ≤ 100000
theorem PlanV.kept0 {w w' : World} {base : Nat} {v : Value} {L : List (Sh × Value)} (h : PlanV w base v L) (k : Kept [] w w') : PlanV w' base v L :=
  ⟨own_kept0 h.row k, fun p hp => own_kept0 (h.parts p hp) k, h.few, h.short⟩
theorem flat_set2 {L : List (Sh × Value)} {j : Nat} {p : Sh × Value} (hp : L[j]? = some p) (q : Sh) (v : Value) (h1 : q.mem = p.1.mem) (h2 : q.top = p.1.top) : (shFlat L).set (j * 3 + 2) v = shFlat (L.set j (q, v)) := by
  obtain ⟨hj, e⟩ := List.getElem?_eq_some_iff.1 hp
  have hl : j * 3 + 2 < (shFlat L).length := by rw [shFlat_len]; omega
  apply List.ext_getElem?
  intro i
  obtain ⟨a, b, hb, rfl⟩ : ∃ a b, b < 3 ∧ i = a * 3 + b := ⟨i / 3, i % 3, Nat.mod_lt _ (by decide), by omega⟩
  rw [show shFlat (L.set j (q, v)) = (L.set j (q, v)).flatMap shCells from rfl, flat_get shCells 3 sh_len (by decide) _ a b hb, List.getElem?_set]
  have hf : (shFlat L)[a * 3 + b]? = (L[a]?).bind fun x => (shCells x)[b]? := flat_get shCells 3 sh_len (by decide) L a b hb
  by_cases haj : a = j
  · subst haj
    rw [List.getElem?_set_self hj]
    rw [hp] at hf
    by_cases hb2 : b = 2
    · subst hb2
      rw [if_pos rfl, if_pos hl]
      rfl
    · rw [if_neg (by omega), hf]
      have : b = 0 ∨ b = 1 := by omega
      rcases this with rfl | rfl <;> simp [shCells, h1, h2]
  · rw [if_neg (by omega), List.getElem?_set_ne (fun h => haj h.symm), hf]
end Go.Proofs.YtghgffhcdnmpnaaGreat
/-
  A plan in memory after a row of gifts; share on such a plan. Conditions: those of each lemma.
-/
namespace Go.Proofs.YtghgffhcdnmpnaaGreat
open Go.RowKit Go.Sort
/-- A plan of one's own that reads as a row of gifts makes it. -/
structure PlanS (w : World) (B : Nat) (v : Value) (s : List (ByteArray × ByteArray × Int)) : Prop where
  ex : ∃ L : List (Sh × Value), w.ownsRow B 53 3 v L.length (shFlat L) ∧ (∀ p ∈ L, w.ownsRow B 21 1 p.2 p.1.parts.length (ints p.1.parts)) ∧ L.map Prod.fst = sharesP s
theorem PlanS.kept {S : List Nat} {w w' : World} {B : Nat} {v : Value} {s : List (ByteArray × ByteArray × Int)} (h : PlanS w B v s) (k : Kept S w w') (hS : ∀ x ∈ S, x < B) : PlanS w' B v s := by
  obtain ⟨L, h1, h2, h3⟩ := h.ex
  exact ⟨L, k.own h1 (fun b hb hm => by have := own_ge h1 b hb; have := hS b hm; omega), fun p hp => k.own (h2 p hp) (fun b hb hm => by have := own_ge (h2 p hp) b hb; have := hS b hm; omega), h3⟩
theorem PlanS.kept0 {w w' : World} {B : Nat} {v : Value} {s : List (ByteArray × ByteArray × Int)} (h : PlanS w B v s) (k : Kept [] w w') : PlanS w' B v s := h.kept k (by simp)
theorem PlanS.lt {w : World} {B : Nat} {v : Value} {s : List (ByteArray × ByteArray × Int)} (h : PlanS w B v s) : ∀ g, v.ownBlock = some g → B ≤ g ∧ g < w.heap.size := by
  obtain ⟨L, h1, _, _⟩ := h.ex
  exact fun g hg => ⟨own_ge h1 g hg, own_lt h1 g hg⟩
end Go.Proofs.YtghgffhcdnmpnaaGreat
