/-
  A group that fits: what follows; plans of one's own as shares. Conditions: those of each lemma.
-/
import Derived.Test.YtghgffhcdnmpnaaGreatZF1
import Derived.Test.YtghgffhcdnmpnaaGreatZE5
import Derived.Test.YtghgffhcdnmpnaaGreatZL4
namespace Go.Proofs.YtghgffhcdnmpnaaGreat
open Go.ChangeShapes Go.WideShapes Go.ChangeAt Go.RowKit Go.Sort
/-- A row of shares of one's own is read as its shares. -/
theorem own_shs {w : World} {B : Nat} {v : Value} {L : List (Sh × Value)} (h1 : w.ownsRow B 53 3 v L.length (shFlat L)) (h2 : ∀ p ∈ L, w.ownsRow B 21 1 p.2 p.1.parts.length (ints p.1.parts)) : ShsAt w (fun _ => True) v (L.map Prod.fst) :=
  ⟨L, rfl, (SlAt.own h1).mono (fun _ _ => trivial), fun p hp => (SlAt.own (h2 p hp)).mono (fun _ _ => trivial)⟩
theorem PlanS.shs {w : World} {B : Nat} {v : Value} {s : List (ByteArray × ByteArray × Int)} (h : PlanS w B v s) : ShsAt w (fun _ => True) v (sharesP s) := by
  obtain ⟨L, h1, h2, h3⟩ := h.ex
  rw [← h3]
  exact own_shs h1 h2
theorem nodup_of_get {α β : Type} (f : α → β) {l : List α} (h : ∀ (i j : Nat) (a b : α), i < j → l[i]? = some a → l[j]? = some b → f a ≠ f b) : (l.map f).Nodup := by
  refine List.pairwise_iff_getElem.2 (fun i j hi hj hij => ?_)
  rw [List.getElem_map, List.getElem_map]
  simp only [List.length_map] at hi hj
  exact h i j _ _ hij (List.getElem?_eq_getElem hi) (List.getElem?_eq_getElem hj)
theorem tops_sorted {ts : List Sh} (h : ∀ (i : Nat) (a b : Sh), ts[i]? = some a → ts[i + 1]? = some b → slt a.top b.top = true) : ts.Pairwise (fun a b => slt a.top b.top = true) := by
  induction ts with
  | nil => exact .nil
  | cons a r ih =>
    have ih' := ih (fun i x y hx hy => h (i + 1) x y (by simpa using hx) (by simpa using hy))
    refine List.pairwise_cons.2 ⟨fun y hy => ?_, ih'⟩
    cases r with
    | nil => cases hy
    | cons b r =>
      have hab := h 0 a b rfl rfl
      rcases List.mem_cons.1 hy with rfl | hy
      · exact hab
      · exact slt_trans hab ((List.pairwise_cons.1 ih').1 y hy)
theorem Fits.tnodup {ms : List MV} {ts : List Sh} (h : Fits ms ts) : (ts.map Sh.top).Nodup := by
  rw [List.Nodup, List.pairwise_map]
  refine (tops_sorted h.sorted).imp ?_
  intro a b hab he
  rw [he, slt_irrefl] at hab
  cases hab
theorem Fits.inodup {ms : List MV} {ts : List Sh} (h : Fits ms ts) : (ms.map MV.id).Nodup := nodup_of_get MV.id h.ids
theorem Fits.grp {ms : List MV} {ts : List Sh} {w : World} {mv tv : Value} (h : Fits ms ts) (hm : MemsAt w (fun x => x < w.heap.size) mv ms) (ht : ShsAt w (fun x => x < w.heap.size) tv ts) : Grp w (fun x => x < w.heap.size) mv tv ms ts where
  mems := hm
  tops := ht
  lt := fun _ hx => hx
  ids := h.inodup
  six := by have := h.m6; omega
  one := h.m1
  once := fun m hm => by
    obtain ⟨i, hi⟩ := List.getElem?_of_mem hm
    have h1 := h.mems i m hi
    refine ⟨?_, h1.data, h1.own, by have := h1.six; omega⟩
    have := nodup_of_get (id : ByteArray → ByteArray) (l := m.tops) h1.once
    simpa using this
  names := h.tnodup
  twelve := by have := h.t6; omega
  few := fun s hs => by
    obtain ⟨i, hi⟩ := List.getElem?_of_mem hs
    have := (h.tops i s hi).ten
    omega
theorem range_same {ms : List MV} {ts : List Sh} (h : Fits ms ts) : canon (rangePlan (memList ms) (topList ts)) (ms.map MV.id) (ts.map Sh.top) = sharesP (rangeSeq (memList ms) (topList ts)) := by
  have hi : (memList ms).map Prod.fst = ms.map MV.id := by simp [memList, Function.comp_def]
  have ht : (topList ts).map Prod.fst = ts.map Sh.top := by simp [topList, Function.comp_def]
  have hr : gives (rangeSeq (memList ms) (topList ts)) = rangePlan (memList ms) (topList ts) := gives_rangeP _ (by rw [hi]; exact h.inodup) _ (by rw [ht]; exact h.tnodup)
  refine Reads.unique (canon_reads h.inodup h.tnodup (fun m t hne => ⟨?_, ?_⟩)) (by rw [← hr]; exact sharesP_reads _)
  · unfold rangePlan rangeOf at hne
    split at hne
    · rename_i hm
      rw [← hi]
      exact (wantIds_sub _ _).subset ((srt_perm _).mem_iff.1 hm)
    · exact absurd rfl hne
  · rw [← ht]
    exact rangePlan_top hne
end Go.Proofs.YtghgffhcdnmpnaaGreat
/-
  Round robin's order is the order of the topics and of their partitions; what it gives is what the reference gives. In plain Lean. Condition: a group that fits.
-/
namespace Go.Proofs.YtghgffhcdnmpnaaGreat
open Go.RowKit Go.Sort
theorem lt_dash : ∀ (a b : List UInt8), a < b → (∀ c ∈ b, (45 : UInt8) < c) → ∀ x y : List UInt8, a ++ 45 :: x < b ++ 45 :: y
  | [], [], h, _, _, _ => absurd h (List.lt_irrefl _)
  | [], c :: b, _, hb, x, y => by
    rw [List.nil_append, List.cons_append, List.cons_lt_cons_iff]
    exact .inl (hb c (.head _))
  | d :: a, [], h, _, _, _ => absurd h (List.not_lt_nil _)
  | d :: a, c :: b, h, hb, x, y => by
    rw [List.cons_lt_cons_iff] at h
    rw [List.cons_append, List.cons_append, List.cons_lt_cons_iff]
    rcases h with h | ⟨h1, h2⟩
    · exact .inl h
    · exact .inr ⟨h1, lt_dash a b h2 (fun c hc => hb c (.tail _ hc)) x y⟩
theorem lt_tail : ∀ (a x y : List UInt8), x < y → a ++ x < a ++ y
  | [], _, _, h => h
  | c :: a, x, y, h => by
    rw [List.cons_append, List.cons_append, List.cons_lt_cons_iff]
    exact .inr ⟨rfl, lt_tail a x y h⟩
theorem digits_lt : ∀ p : Nat, p < 10 → ∀ q : Nat, q < 10 → p < q → Lib.decDigits p < Lib.decDigits q := by decide +kernel
theorem keyOf_list (t : ByteArray) (k : Nat) : (keyOf (t, (k : Int))).data.toList = t.data.toList ++ 45 :: Lib.decDigits k := by
  simp [keyOf]
theorem word_dash {s : ByteArray} (h : wordB s = true) : (∀ c ∈ s.data.toList, (45 : UInt8) < c) ∧ s.size ≤ 20 := by
  unfold wordB at h
  simp only [Bool.and_eq_true, List.all_eq_true, decide_eq_true_eq] at h
  refine ⟨fun c hc => ?_, h.2⟩
  have h1 := h.1.1 c hc
  unfold letter at h1
  simp only [Bool.and_eq_true, decide_eq_true_eq] at h1
  rw [UInt8.lt_iff_toNat_lt]
  have : (45 : UInt8).toNat = 45 := rfl
  omega
/-- The pairs of a group that fits stand in round robin's order. -/
theorem pairs_sorted {ms : List MV} {ts : List Sh} (h : Fits ms ts) : (pairsOf (topList ts)).Pairwise (fun p q => slt (keyOf p) (keyOf q) = true) := by
  unfold pairsOf
  rw [List.pairwise_flatMap]
  constructor
  · intro x hx
    obtain ⟨s, hs, rfl⟩ := List.mem_map.1 hx
    obtain ⟨i, hi⟩ := List.getElem?_of_mem hs
    have ht := h.tops i s hi
    rw [List.pairwise_map]
    refine List.pairwise_iff_getElem.2 (fun a b ha hb hab => ?_)
    change a < s.parts.length at ha
    change b < s.parts.length at hb
    have h1 := ht.nums a _ (List.getElem?_eq_getElem ha)
    have h2 := ht.nums b _ (List.getElem?_eq_getElem hb)
    have h3 := ht.ten
    show slt (keyOf (s.top, s.parts[a])) (keyOf (s.top, s.parts[b])) = true
    rw [h1, h2]
    simp only [slt, decide_eq_true_eq, keyOf_list]
    refine lt_tail _ _ _ ?_
    rw [List.cons_lt_cons_iff]
    exact .inr ⟨rfl, digits_lt a (by omega) b (by omega) hab⟩
  · unfold topList
    rw [List.pairwise_map]
    refine (tops_sorted h.sorted).imp_of_mem ?_
    intro a b ha hb hab x hx y hy
    obtain ⟨p, hp, rfl⟩ := List.mem_map.1 hx
    obtain ⟨q, hq, rfl⟩ := List.mem_map.1 hy
    obtain ⟨i, hi⟩ := List.getElem?_of_mem ha
    obtain ⟨j, hj⟩ := List.getElem?_of_mem hb
    obtain ⟨k1, hk1⟩ := List.getElem?_of_mem hp
    obtain ⟨k2, hk2⟩ := List.getElem?_of_mem hq
    have e1 := (h.tops i a hi).nums k1 p hk1
    have e2 := (h.tops j b hj).nums k2 q hk2
    show slt (keyOf (a.top, p)) (keyOf (b.top, q)) = true
    rw [e1, e2]
    simp only [slt, decide_eq_true_eq, keyOf_list] at hab ⊢
    exact lt_dash _ _ hab (word_dash (h.tops j b hj).word).1 _ _
theorem eq_sorted {α : Type} (k : α → ByteArray) {a b : List α} (hp : a.Perm b) (ha : a.Pairwise (fun p q => slt (k q) (k p) = false)) (hb : b.Pairwise (fun p q => slt (k p) (k q) = true)) : a = b := by
  have hb2 : b.Pairwise (fun p q => slt (k q) (k p) = false) := hb.imp (fun {p q} h => slt_asymm h)
  refine List.Perm.eq_of_pairwise (le := fun p q => slt (k q) (k p) = false) ?_ ha hb2 hp
  intro x y hx hy h1 h2
  rcases Classical.em (x = y) with h | h
  · exact h
  · have hx2 := hp.mem_iff.1 hx
    obtain ⟨i, hi, rfl⟩ := List.mem_iff_getElem.1 hx2
    obtain ⟨j, hj, rfl⟩ := List.mem_iff_getElem.1 hy
    rcases Nat.lt_trichotomy i j with hij | rfl | hij
    · have := List.pairwise_iff_getElem.1 hb i j hi hj hij
      rw [this] at h2
      cases h2
    · exact absurd rfl h
    · have := List.pairwise_iff_getElem.1 hb j i hj hi hij
      rw [this] at h1
      cases h1
theorem ids_sorted {os ms : List MV} (hn : (ms.map MV.id).Nodup) (hp : os.Perm ms) (hs : os.Pairwise (fun a b => sle a.id b.id = true)) : (memList os).Pairwise (fun p q => slt p.1 q.1 = true) := by
  unfold memList
  rw [List.pairwise_map]
  have hn2 : (os.map MV.id).Nodup := (hp.map MV.id).nodup_iff.2 hn
  rw [List.Nodup, List.pairwise_map] at hn2
  exact (hs.and hn2).imp (fun {a b} h => slt_of_sle h.1 h.2)
theorem gives_ids {l : List (ByteArray × List ByteArray)} : ∀ (ps : List (ByteArray × Int)) (i : Nat) {k t : ByteArray}, gives (roundSeq l ps i) k t ≠ [] → k ∈ l.map Prod.fst
  | [], i, k, t, h => by simp [roundSeq, gives] at h
  | x :: r, i, k, t, h => by
    unfold roundSeq at h
    split at h
    · rename_i hw
      by_cases hx : (l.getD (rnext l x.1 l.length i % l.length) (default, [])).1 = k
      · rw [← hx]
        have hl : 0 < l.length := by
          rcases Nat.eq_zero_or_pos l.length with h0 | h0
          · have : l = [] := List.eq_nil_of_length_eq_zero h0
            subst this
            simp [wantsAt] at hw
          · exact h0
        have hlt := Nat.mod_lt (rnext l x.1 l.length i) hl
        rw [List.getD_eq_getElem?_getD, List.getElem?_eq_getElem hlt]
        exact List.mem_map.2 ⟨_, List.getElem_mem hlt, rfl⟩
      · have h2 : gives (roundSeq l r (rnext l x.1 l.length i + 1)) k t ≠ [] := by
          intro e
          apply h
          unfold gives at e ⊢
          rw [List.filter_cons_of_neg (by simp only [decide_eq_true_eq]; exact fun h => hx h.1)]
          exact e
        exact gives_ids r _ h2
    · exact gives_ids r _ h
/-- By round robin the package gives what the reference gives. -/
theorem round_same {ms : List MV} {ts : List Sh} {os : List MV} {F : ByteArray → ByteArray → List Int} (h : Fits ms ts) (hF : GoodRR (memList ms) (topList ts) F) (hp : os.Perm ms) (hs : os.Pairwise (fun a b => sle a.id b.id = true)) :
    canon F (ms.map MV.id) (ts.map Sh.top) = sharesP (roundSeq (memList os) (pairsOf (topList ts)) 0) := by
  obtain ⟨Lm, l1, h1, h2, h3, h4, rfl⟩ := hF
  have e1 : Lm = memList os := eq_sorted Prod.fst (h1.trans (hp.map _).symm) h2 (ids_sorted h.inodup hp hs)
  have e2 : l1 = pairsOf (topList ts) := eq_sorted keyOf h3 h4 (pairs_sorted h)
  subst e1 e2
  refine Reads.unique (canon_reads h.inodup h.tnodup (fun m t hne => ⟨?_, ?_⟩)) (sharesP_reads _)
  · have hm := gives_ids _ _ hne
    have : (memList os).map Prod.fst = os.map MV.id := by simp [memList, Function.comp_def]
    rw [this] at hm
    exact (hp.map MV.id).mem_iff.1 hm
  · obtain ⟨p, hp2⟩ := gives_top _ _ hne
    obtain ⟨x, hx, hx2⟩ := List.mem_flatMap.1 hp2
    obtain ⟨q, _, hq⟩ := List.mem_map.1 hx2
    have hxt : x.1 = t := congrArg Prod.fst hq
    obtain ⟨s, hs2, rfl⟩ := List.mem_map.1 hx
    exact List.mem_map.2 ⟨s, hs2, hxt⟩
theorem fits_pre {ms : List MV} {ts : List Sh} (h : Fits ms ts) : PreRR (memList ms) (topList ts) where
  one := by simpa [topList] using h.t1
  tops := fun x hx => by
    obtain ⟨s, hs, rfl⟩ := List.mem_map.1 hx
    obtain ⟨i, hi⟩ := List.getElem?_of_mem hs
    have ht := h.tops i s hi
    refine ⟨by have := (word_dash ht.word).2; show s.top.size ≤ 1000000; omega, ht.one, by have := ht.ten; show s.parts.length ≤ 10000; omega, fun p hp => ?_⟩
    obtain ⟨k, hk⟩ := List.getElem?_of_mem hp
    have hkl : k < s.parts.length := (List.getElem?_eq_some_iff.1 hk).1
    exact ⟨k, by have := ht.ten; omega, ht.nums k p hk⟩
theorem Fits.want {ms : List MV} {ts : List Sh} (h : Fits ms ts) : ∀ s ∈ ts, ∃ m ∈ ms, s.top ∈ m.tops := by
  intro s hs
  have h1 := h.wanted
  unfold wantedB at h1
  have h2 := List.all_eq_true.1 h1 s hs
  obtain ⟨m, hm, h3⟩ := List.any_eq_true.1 h2
  exact ⟨m, hm, by simpa [wantB] using h3⟩
end Go.Proofs.YtghgffhcdnmpnaaGreat
