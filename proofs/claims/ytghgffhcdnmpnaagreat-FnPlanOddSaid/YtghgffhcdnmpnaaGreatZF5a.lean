/-
  A group that fits: what follows; plans of one's own as shares. Conditions: those of each lemma.
-/
import Derived.Test.YtghgffhcdnmpnaaGreatZF1
import Derived.Test.YtghgffhcdnmpnaaGreatZE5
import Derived.Test.YtghgffhcdnmpnaaGreatZL4
namespace Go.Proofs.YtghgffhcdnmpnaaGreat
open Go.ChangeShapes Go.WideShapes Go.ChangeAt Go.RowKit Go.Sort
/-- A row of shares of one's own is read as its shares. -/
theorem own_shs {w : World} {B : Nat} {v : Value} {L : List (Sh × Value)} (h1 : w.ownsRow B 53 3 v L.length (shFlat L)) (h2 : ∀ p ∈ L, w.ownsRow B 21 1 p.2 p.1.parts.length (ints p.1.parts)) : ShsAt w (fun _ => True) v (L.map Prod.fst) :=
  ⟨L, rfl, (SlAt.own h1).mono (fun _ _ => trivial), fun p hp => (SlAt.own (h2 p hp)).mono (fun _ _ => trivial)⟩
theorem PlanS.shs {w : World} {B : Nat} {v : Value} {s : List (ByteArray × ByteArray × Int)} (h : PlanS w B v s) : ShsAt w (fun _ => True) v (sharesP s) := by
  obtain ⟨L, h1, h2, h3⟩ := h.ex
  rw [← h3]
  exact own_shs h1 h2
theorem nodup_of_get {α β : Type} (f : α → β) {l : List α} (h : ∀ (i j : Nat) (a b : α), i < j → l[i]? = some a → l[j]? = some b → f a ≠ f b) : (l.map f).Nodup := by
  refine List.pairwise_iff_getElem.2 (fun i j hi hj hij => ?_)
  rw [List.getElem_map, List.getElem_map]
  simp only [List.length_map] at hi hj
  exact h i j _ _ hij (List.getElem?_eq_getElem hi) (List.getElem?_eq_getElem hj)
theorem tops_sorted {ts : List Sh} (h : ∀ (i : Nat) (a b : Sh), ts[i]? = some a → ts[i + 1]? = some b → slt a.top b.top = true) : ts.Pairwise (fun a b => slt a.top b.top = true) := by
  induction ts with
  | nil => exact .nil
  | cons a r ih =>
    have ih' := ih (fun i x y hx hy => h (i + 1) x y (by simpa using hx) (by simpa using hy))
    refine List.pairwise_cons.2 ⟨fun y hy => ?_, ih'⟩
    cases r with
    | nil => cases hy
    | cons b r =>
      have hab := h 0 a b rfl rfl
      rcases List.mem_cons.1 hy with rfl | hy
      · exact hab
      · exact slt_trans hab ((List.pairwise_cons.1 ih').1 y hy)
theorem Fits.tnodup {ms : List MV} {ts : List Sh} (h : Fits ms ts) : (ts.map Sh.top).Nodup := by
  rw [List.Nodup, List.pairwise_map]
  refine (tops_sorted h.sorted).imp ?_
  intro a b hab he
  rw [he, slt_irrefl] at hab
  cases hab
theorem Fits.inodup {ms : List MV} {ts : List Sh} (h : Fits ms ts) : (ms.map MV.id).Nodup := nodup_of_get MV.id h.ids
theorem Fits.grp {ms : List MV} {ts : List Sh} {w : World} {mv tv : Value} (h : Fits ms ts) (hm : MemsAt w (fun x => x < w.heap.size) mv ms) (ht : ShsAt w (fun x => x < w.heap.size) tv ts) : Grp w (fun x => x < w.heap.size) mv tv ms ts where
  mems := hm
  tops := ht
  lt := fun _ hx => hx
  ids := h.inodup
  six := by have := h.m6; omega
  one := h.m1
  once := fun m hm => by
    obtain ⟨i, hi⟩ := List.getElem?_of_mem hm
    have h1 := h.mems i m hi
    refine ⟨?_, h1.data, h1.own, by have := h1.six; omega⟩
    have := nodup_of_get (id : ByteArray → ByteArray) (l := m.tops) h1.once
    simpa using this
  names := h.tnodup
  twelve := by have := h.t6; omega
  few := fun s hs => by
    obtain ⟨i, hi⟩ := List.getElem?_of_mem hs
    have := (h.tops i s hi).ten
    omega
end Go.Proofs.YtghgffhcdnmpnaaGreat
/-
  Round robin's order is the order of the topics and of their partitions; what it gives is what the reference gives. In plain Lean. Condition: a group that fits.
-/
namespace Go.Proofs.YtghgffhcdnmpnaaGreat
open Go.RowKit Go.Sort
theorem word_dash {s : ByteArray} (h : wordB s = true) : (∀ c ∈ s.data.toList, (45 : UInt8) < c) ∧ s.size ≤ 20 := by
  unfold wordB at h
  simp only [Bool.and_eq_true, List.all_eq_true, decide_eq_true_eq] at h
  refine ⟨fun c hc => ?_, h.2⟩
  have h1 := h.1.1 c hc
  unfold letter at h1
  simp only [Bool.and_eq_true, decide_eq_true_eq] at h1
  rw [UInt8.lt_iff_toNat_lt]
  have : (45 : UInt8).toNat = 45 := rfl
  omega
theorem Fits.want {ms : List MV} {ts : List Sh} (h : Fits ms ts) : ∀ s ∈ ts, ∃ m ∈ ms, s.top ∈ m.tops := by
  intro s hs
  have h1 := h.wanted
  unfold wantedB at h1
  have h2 := List.all_eq_true.1 h1 s hs
  obtain ⟨m, hm, h3⟩ := List.any_eq_true.1 h2
  exact ⟨m, hm, by simpa [wantB] using h3⟩
end Go.Proofs.YtghgffhcdnmpnaaGreat
