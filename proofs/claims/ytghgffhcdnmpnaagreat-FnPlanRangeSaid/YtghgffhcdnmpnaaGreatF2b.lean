/-
  A plan in memory after a row of gifts; share on such a plan. Conditions: those of each lemma.
-/
import Derived.Test.YtghgffhcdnmpnaaGreatF2
namespace Go.Proofs.YtghgffhcdnmpnaaGreat
open Go.RowKit Go.Sort
theorem shareP_len (m t : ByteArray) (x : Int) : ∀ l : List Sh, (shareP l m t x).length ≤ l.length + 1
  | [] => by simp [shareP]
  | p :: r => by
    have := shareP_len m t x r
    unfold shareP
    split
    · simp
    · split <;> simp <;> omega
theorem shareP_short (m t : ByteArray) (x : Int) (n : Nat) : ∀ l : List Sh, (∀ p ∈ l, p.parts.length ≤ n) → ∀ p ∈ shareP l m t x, p.parts.length ≤ n + 1
  | [], _, p, hp => by
    simp [shareP] at hp
    subst hp
    simp
  | q :: r, h, p, hp => by
    have hq := h q (.head _)
    have hr := fun p hp => h p (.tail _ hp)
    unfold shareP at hp
    split at hp
    · rcases List.mem_cons.1 hp with rfl | hp
      · simp; omega
      · have := hr p hp; omega
    · split at hp
      · rcases List.mem_cons.1 hp with rfl | hp
        · simp
        · have := h p hp; omega
      · rcases List.mem_cons.1 hp with rfl | hp
        · omega
        · exact shareP_short m t x n r hr p hp
theorem sharesP_few (s : List (ByteArray × ByteArray × Int)) : (sharesP s).length ≤ s.length ∧ ∀ p ∈ sharesP s, p.parts.length ≤ s.length := by
  rw [← List.reverse_reverse s]
  induction s.reverse with
  | nil => simp [sharesP]
  | cons x r ih =>
    rw [List.reverse_cons, sharesP_snoc, List.length_append, List.length_singleton]
    have := shareP_len x.1 x.2.1 x.2.2 (sharesP r.reverse)
    exact ⟨by omega, shareP_short _ _ _ _ _ ih.2⟩
/-- A plan of one's own that reads as a row of gifts makes it. -/
structure PlanS (w : World) (B : Nat) (v : Value) (s : List (ByteArray × ByteArray × Int)) : Prop where
  ex : ∃ L : List (Sh × Value), w.ownsRow B 53 3 v L.length (shFlat L) ∧ (∀ p ∈ L, w.ownsRow B 21 1 p.2 p.1.parts.length (ints p.1.parts)) ∧ L.map Prod.fst = sharesP s
theorem PlanS.kept {S : List Nat} {w w' : World} {B : Nat} {v : Value} {s : List (ByteArray × ByteArray × Int)} (h : PlanS w B v s) (k : Kept S w w') (hS : ∀ x ∈ S, x < B) : PlanS w' B v s := by
  obtain ⟨L, h1, h2, h3⟩ := h.ex
  exact ⟨L, k.own h1 (fun b hb hm => by have := own_ge h1 b hb; have := hS b hm; omega), fun p hp => k.own (h2 p hp) (fun b hb hm => by have := own_ge (h2 p hp) b hb; have := hS b hm; omega), h3⟩
theorem PlanS.kept0 {w w' : World} {B : Nat} {v : Value} {s : List (ByteArray × ByteArray × Int)} (h : PlanS w B v s) (k : Kept [] w w') : PlanS w' B v s := h.kept k (by simp)
theorem PlanS.lt {w : World} {B : Nat} {v : Value} {s : List (ByteArray × ByteArray × Int)} (h : PlanS w B v s) : ∀ g, v.ownBlock = some g → B ≤ g ∧ g < w.heap.size := by
  obtain ⟨L, h1, _, _⟩ := h.ex
  exact fun g hg => ⟨own_ge h1 g hg, own_lt h1 g hg⟩
theorem PlanS.row_ne {w : World} {B b : Nat} {e : TypeId} {s' n : Nat} {v rv : Value} {xs : List Value} {s : List (ByteArray × ByteArray × Int)} (h : PlanS w B v s) (hr : w.ownsRow b e s' rv n xs) (hne : e ≠ 53) : ∀ g, rv.ownBlock = some g → g ∉ v.ownBlock.toList := by
  obtain ⟨L, h1, _, _⟩ := h.ex
  exact own_types_ne hr h1 hne
def ShareS (w : World) (B : Nat) (v : Value) (s : List (ByteArray × ByteArray × Int)) (m t : ByteArray) (x : Int) (e : Ending) (w' : World) : Prop :=
  ∃ v', e = .returned v' ∧ PlanS w' B v' (s ++ [(m, t, x)]) ∧ (∀ g, v'.ownBlock = some g → v.ownBlock = some g ∨ w.heap.size ≤ g) ∧ Kept v.ownBlock.toList w w'
theorem share_s {w : World} {B : Nat} {v : Value} {s : List (ByteArray × ByteArray × Int)} (m t : ByteArray) (x : Int) (hB : B ≤ w.heap.size) (h : PlanS w B v s) (hs : s.length ≤ 100000) :
    Calls Tryz.prog 48 #[v, .string m, .string t, .int .i32 x] w (ShareS w B v s m t x) := by
  obtain ⟨L, h1, h2, h3⟩ := h.ex
  have hf := sharesP_few s
  have hll : L.length = (sharesP s).length := by rw [← h3, List.length_map]
  refine (share_any B v L m t x w hB ⟨h1, h2, by omega, fun p hp => ?_⟩).mono ?_
  · have := hf.2 p.1 (by rw [← h3]; exact List.mem_map.2 ⟨p, hp, rfl⟩)
    omega
  · rintro e w' ⟨v', L', he, h4, h5, h6, h7, h8⟩
    exact ⟨v', he, ⟨L', h4, h5, by rw [h6, h3, sharesP_snoc]⟩, h7, h8⟩
end Go.Proofs.YtghgffhcdnmpnaaGreat
