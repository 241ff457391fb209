/-
  A law for a region that draws its order, in which operations write: each operation i of the head has its own effect E i; the facts of the others' values, and what the others yet need, outlive it. No program in sight. Conditions: those of the law's premises.
-/
import Derived.Test.YtghgffhcdnmpnaaGreatR0
namespace Go.Proofs.YtghgffhcdnmpnaaGreat
open Go.RowKit

section
variable {P : Program} {ops : Array Oper} {Q : Exit → Act → World → Prop}

def stepPE (P : Program) (ops : Array Oper) (Q : Exit → Act → World → Prop) (R : World → World → Prop) (E : Nat → World → World → Prop) (Pre : Nat → World → Prop) (F : Nat → Value → World → Prop) (n : Nat) (a0 : Act) (w0 : World) (i : Nat) (o : Oper) : Prop :=
  ∀ a w, R w0 w → Pre i w → sameBut (headDsts ops n) a0 a → deps ops F a w o.after.toList → o.wp P a w (StepPost (E i) F i o a w) Q

def stepsE (P : Program) (ops : Array Oper) (Q : Exit → Act → World → Prop) (R : World → World → Prop) (E : Nat → World → World → Prop) (Pre : Nat → World → Prop) (F : Nat → Value → World → Prop) (n : Nat) (a0 : Act) (w0 : World) : Nat → List Oper → Prop
  | _, [] => True
  | i, o :: l => stepPE P ops Q R E Pre F n a0 w0 i o ∧ stepsE P ops Q R E Pre F n a0 w0 (i + 1) l

theorem stepsE_at {R : World → World → Prop} {E : Nat → World → World → Prop} {Pre : Nat → World → Prop} {F : Nat → Value → World → Prop} {n : Nat} {a0 : Act} {w0 : World} : ∀ (l : List Oper) (k : Nat), stepsE P ops Q R E Pre F n a0 w0 k l → ∀ j o, l[j]? = some o → stepPE P ops Q R E Pre F n a0 w0 (k + j) o
  | [], _, _, j, o, h => by simp at h
  | x :: l, k, h, 0, o, hj => by
    have : x = o := by simpa using hj
    subst this
    exact h.1
  | x :: l, k, h, j + 1, o, hj => by
    have := stepsE_at l (k + 1) h.2 j o (by simpa using hj)
    rwa [show k + 1 + j = k + (j + 1) by omega] at this

theorem wpAny_effs {R : World → World → Prop} {E : Nat → World → World → Prop} {Pre : Nat → World → Prop} {F : Nat → Value → World → Prop} {n : Nat} {a0 : Act} {w0 : World} (hRt : ∀ i a b c, R a b → E i b c → R a c) (hF : ∀ i j v w w', i ≠ j → F j v w → E i w w' → F j v w') (hPr : ∀ i j w w', i ≠ j → Pre j w → E i w w' → Pre j w')
    (hok : regOk ops n a0.tmps.size = true) (hsteps : stepsE P ops Q R E Pre F n a0 w0 0 (ops.toList.take n))
    (hend : ∀ a w, R w0 w → sameBut (headDsts ops n) a0 a → facts F a w 0 (ops.toList.take n) → wpList P ops Q (ops.toList.drop n) a w) :
    ∀ (c : Nat) (listed : Array Bool) (a : Act) (w : World), (left n listed).length = c → HeadInv .any ops n listed → R w0 w → sameBut (headDsts ops n) a0 a →
      (∀ i o, i < n → ops[i]? = some o → listed.getD i true = true → dstFact F i o a w) → (∀ i, i < n → listed.getD i true = false → Pre i w) → wpAny P .any ops Q (c + (ops.size - n)) listed a w := by
  simp only [regOk, Bool.and_eq_true, decide_eq_true_eq] at hok
  obtain ⟨⟨⟨⟨⟨⟨⟨hn, hsink⟩, hchain⟩, hguard⟩, hback⟩, hnd⟩, hdl⟩, hseq⟩ := hok
  intro c
  induction c with
  | zero =>
    intro listed a w hc inv hR hs hfacts hpre
    have hall : ∀ i, i < n → listed.getD i true = true := by
      intro i hi
      cases hl : listed.getD i true with
      | true => rfl
      | false =>
        have : i ∈ left n listed := List.mem_filter.2 ⟨by simpa using hi, by simpa using hl⟩
        have := List.length_pos_of_mem this
        omega
    have he : listed = (List.replicate n true ++ List.replicate (ops.size - n) false).toArray := by
      apply Array.ext
      · simp [inv.size]; omega
      · intro i h1 h2
        rcases Nat.lt_or_ge i n with hi | hi
        · have := hall i hi
          simp [h1] at this
          simp [this, hi]
        · have := inv.tail i hi (by rw [← inv.size]; exact h1)
          simp [h1] at this
          simp only [List.getElem_toArray]
          rw [List.getElem_append_right (by simpa using hi)]
          simp [this]
    rw [Nat.zero_add]
    have hd : (ops.toList.drop n).length = ops.size - n := by simp
    have := wpAny_of_seq (P := P) (md := .any) (ops := ops) (Q' := Q) (ops.toList.drop n) n listed a w (fun j => by simp [List.getElem?_drop]) (by rw [hd, he]; exact hseq)
      (hend a w hR hs (facts_of _ _ (fun j o hj => by
        have hjn : j < n := by
          have := (List.getElem?_eq_some_iff.1 hj).1
          simp at this
          omega
        have hjo : ops[j]? = some o := by
          rw [List.getElem?_take] at hj
          simpa [hjn] using hj
        simpa using hfacts j o hjn hjo (hall j hjn))))
    rwa [hd] at this
  | succ c ih =>
    intro listed a w hc inv hR hs hfacts hpre
    rw [show c + 1 + (ops.size - n) = (c + (ops.size - n)) + 1 by omega]
    have hex : ∃ i, i ∈ left n listed := by
      cases h : left n listed with
      | nil => rw [h] at hc; simp at hc
      | cons x l => exact ⟨x, .head _⟩
    -- the least one that is left is ready
    have hready : Region.ready .any ops listed ≠ [] := by
      obtain ⟨i0, hi0⟩ := hex
      have : ∃ i, i ∈ left n listed ∧ ∀ j, j < i → j ∉ left n listed := by
        induction i0 using Nat.strongRecOn with
        | _ i0 ih0 =>
          rcases Classical.em (∃ j, j < i0 ∧ j ∈ left n listed) with ⟨j, h1, h2⟩ | h
          · exact ih0 j h1 h2
          · exact ⟨i0, hi0, fun j hj hm => h ⟨j, hj, hm⟩⟩
      obtain ⟨i, him, hmin⟩ := this
      have h1 := List.mem_filter.1 him
      have hin : i < n := by simpa using h1.1
      have hlf : listed.getD i true = false := by simpa using h1.2
      have hio : i < ops.size := by omega
      have hmem : i ∈ Region.ready .any ops listed := by
        refine mem_ready.2 ⟨hlf, ops[i], by simp [hio], fun e he hb => ?_⟩
        have hb1 := List.all_eq_true.1 hback i (by simpa using hin)
        simp only [Array.getElem?_eq_getElem hio] at hb1
        have hb2 := List.all_eq_true.1 hb1 e (by simpa using he)
        simp only [hb, Bool.not_true, Bool.false_or, decide_eq_true_eq] at hb2
        have hne := hmin e.on hb2
        cases hl : listed.getD e.on false with
        | true => rfl
        | false =>
          exact absurd (List.mem_filter.2 ⟨by simp; omega, by
            have := getD_in (listed := listed) (i := e.on) (by rw [inv.size]; omega) hl
            simpa using this⟩) hne
      intro h0
      rw [h0] at hmem
      cases hmem
    refine ⟨fun h0 => absurd h0 hready, fun i hi => ?_⟩
    obtain ⟨i0, hi0⟩ := hex
    have hi0' := List.mem_filter.1 hi0
    have hin : i < n := by
      rcases Nat.lt_or_ge i n with h | h
      · exact h
      · exact absurd hi (tail_waits hsink hchain hn inv (n - i0) i0 rfl (by simpa using hi0'.1) (by simpa using hi0'.2) i h)
    obtain ⟨hlf, oi, hoi, hall⟩ := mem_ready.1 hi
    have hst := stepsE_at (ops.toList.take n) 0 hsteps i oi (by rw [List.getElem?_take]; simpa [hin] using hoi)
    rw [Nat.zero_add] at hst
    have hg : oi.guard = none := by
      have := List.all_eq_true.1 hguard oi (List.mem_of_getElem? (i := i) (by rw [List.getElem?_take]; simpa [hin] using hoi))
      simpa using this
    have hdeps : ∀ l : List Edge, (∀ e ∈ l, e ∈ oi.after) → deps ops F a w l := by
      intro l
      induction l with
      | nil => intro _; trivial
      | cons e l ihl =>
        intro hl
        refine ⟨fun hb => ?_, ihl (fun x hx => hl x (.tail _ hx))⟩
        have hlist := hall e (hl e (.head _)) hb
        have hb1 := List.all_eq_true.1 hback i (by simpa using hin)
        simp only [hoi] at hb1
        have hb2 := List.all_eq_true.1 hb1 e (by simpa using hl e (.head _))
        simp only [hb, Bool.not_true, Bool.false_or, decide_eq_true_eq] at hb2
        cases hoe : ops[e.on]? with
        | none => trivial
        | some oe =>
          refine hfacts e.on oe (by omega) hoe ?_
          cases h : listed.getD e.on true with
          | true => rfl
          | false => rw [getD_both h] at hlist; cases hlist
    have hrun := hst a w hR (hpre i hin hlf) hs (hdeps _ (fun e he => by simpa using he))
    unfold wpOp
    simp only [hoi]
    rw [if_pos (by simp [Region.wanted, hg])]
    refine .inl (Oper.wp_mono ?_ hrun)
    rintro a' w' ⟨v, rfl, hRw, hFv, hFn⟩
    refine ih (listed.setIfInBounds i true) _ w' (by have := left_set hin hlf; omega) (inv.set hi hin) (hRt _ _ _ _ hR hRw) ?_ ?_ ?_
    · cases hd : oi.dst with
      | none => exact hs
      | some d =>
        refine ⟨hs.1, by simpa [Act.put] using hs.2.1, fun t ht => ?_⟩
        have hdm : d ∈ headDsts ops n := List.mem_filterMap.2 ⟨oi, List.mem_of_getElem? (i := i) (by rw [List.getElem?_take]; simpa [hin] using hoi), hd⟩
        have hne : d ≠ t := fun e => ht (e ▸ hdm)
        simp only [Act.put, Array.getElem?_setIfInBounds_ne hne]
        exact hs.2.2 t ht
    · intro j o hjn hjo hlj
      by_cases hij : j = i
      · subst hij
        obtain rfl : oi = o := Option.some.inj (hoi.symm.trans hjo)
        unfold dstFact
        cases hd : oi.dst with
        | none => exact hFn hd
        | some d =>
          have hdm : d ∈ headDsts ops n := List.mem_filterMap.2 ⟨oi, List.mem_of_getElem? (i := j) (by rw [List.getElem?_take]; simpa [hin] using hoi), hd⟩
          have hdlt : d < a.tmps.size := by
            have := List.all_eq_true.1 hdl d hdm
            rw [hs.2.1]
            simpa using this
          simp [Act.put, hdlt, hFv]
      · have hlj' : listed.getD j true = true := by
          simpa [Array.getElem?_setIfInBounds_ne (Ne.symm hij)] using hlj
        have h0 := hfacts j o hjn hjo hlj'
        unfold dstFact at h0 ⊢
        cases hdj : o.dst with
        | none => rw [hdj] at h0; exact hF _ _ _ _ _ (Ne.symm hij) h0 hRw
        | some dj =>
          rw [hdj] at h0
          have heq : (a.put oi.dst v).tmps[dj]? = a.tmps[dj]? := by
            cases hd : oi.dst with
            | none => rfl
            | some d =>
              have hne : d ≠ dj := by
                intro e
                subst e
                -- two operations of the head that write one slot
                have hh : ∀ (l : List Oper) (p q : Nat) (x y : Oper), p < q → l[p]? = some x → l[q]? = some y → x.dst = some d → y.dst = some d → ¬ (l.filterMap (·.dst)).Nodup := by
                  intro l
                  induction l with
                  | nil => intro p q x y _ h; simp at h
                  | cons z l ihl =>
                    intro p q x y hpq h1 h2 h3 h4 hnod
                    cases q with
                    | zero => omega
                    | succ q =>
                      cases p with
                      | zero =>
                        have hz : z = x := by simpa using h1
                        subst hz
                        rw [List.filterMap_cons_some h3] at hnod
                        have h5 := (List.nodup_cons.1 hnod).1
                        exact h5 (List.mem_filterMap.2 ⟨y, List.mem_of_getElem? (i := q) (by simpa using h2), h4⟩)
                      | succ p =>
                        have hnod' : (l.filterMap (·.dst)).Nodup := by
                          cases hz : z.dst with
                          | none => rwa [List.filterMap_cons_none hz] at hnod
                          | some dz => rw [List.filterMap_cons_some hz] at hnod; exact (List.nodup_cons.1 hnod).2
                        exact ihl p q x y (by omega) (by simpa using h1) (by simpa using h2) h3 h4 hnod'
                have hti : (ops.toList.take n)[i]? = some oi := by rw [List.getElem?_take]; simpa [hin] using hoi
                have htj : (ops.toList.take n)[j]? = some o := by rw [List.getElem?_take]; simpa [hjn] using hjo
                rcases Nat.lt_or_gt_of_ne hij with h | h
                · exact hh _ j i o oi h htj hti hdj hd hnd
                · exact hh _ i j oi o h hti htj hd hdj hnd
              simp only [Act.put, Array.getElem?_setIfInBounds_ne hne]
          show F j ((a.put oi.dst v).tmps[dj]?.getD undef) w'
          rw [heq]
          exact hF _ _ _ _ _ (Ne.symm hij) h0 hRw
    · intro j hjn hlj
      have hij : i ≠ j := by
        intro e
        subst e
        have hsz : i < listed.size := by rw [inv.size]; omega
        simp [hsz] at hlj
      refine hPr i j w w' hij (hpre j hjn ?_) hRw
      simpa [Array.getElem?_setIfInBounds_ne hij] using hlj

/-- A region that draws its order, by the facts of its head's values; its tail by the walk. -/
theorem wp_region_effs {id : Nat} {l : List Oper} {a0 : Act} {w0 : World} (n : Nat) (R : World → World → Prop) (E : Nat → World → World → Prop) (Pre : Nat → World → Prop) (F : Nat → Value → World → Prop) (hm : P.follows .mixedOrders = true)
    (hok : regOk l.toArray n a0.tmps.size = true) (hR0 : R w0 w0.drew) (hRt : ∀ i a b c, R a b → E i b c → R a c) (hP0 : ∀ i, i < n → Pre i w0.drew) (hF : ∀ i j v w w', i ≠ j → F j v w → E i w w' → F j v w') (hPr : ∀ i j w w', i ≠ j → Pre j w → E i w w' → Pre j w')
    (hsteps : stepsE P l.toArray Q R E Pre F n a0 w0 0 (l.take n))
    (hend : ∀ a w, R w0 w → sameBut (headDsts l.toArray n) a0 a → facts F a w 0 (l.take n) → wpList P l.toArray Q (l.drop n) a w) :
    (Code.region id l.toArray true).wp P Q a0 w0 := by
  refine wp_region_any hm ?_
  have hn : n < l.length := by
    simp only [regOk, Bool.and_eq_true, decide_eq_true_eq] at hok
    simpa using hok.1.1.1.1.1.1.1
  have inv0 : HeadInv .any l.toArray n (Array.replicate l.toArray.size false) :=
    ⟨by simp, fun j oj _ hl => (by rw [getD_replicate_false] at hl; cases hl), fun t _ ht => getD_in (by simpa using ht) (getD_replicate_false _ _)⟩
  have hleft : (left n (Array.replicate l.toArray.size false)).length = n := by
    unfold left
    rw [List.filter_eq_self.2 (fun i hi => by
      have : i < l.length := by have := List.mem_range.1 hi; omega
      simp [this])]
    simp
  have := wpAny_effs (P := P) (Q := Q) hRt hF hPr hok (by simpa using hsteps) (by simpa using hend) n (Array.replicate l.toArray.size false) a0 w0.drew hleft inv0 hR0 ⟨rfl, rfl, fun _ _ => rfl⟩
    (fun i o hi _ hl => by
      have : i < l.length := by omega
      simp [this] at hl)
    (fun i hi _ => hP0 i hi)
  rw [show n + (l.toArray.size - n) = l.toArray.size by simp; omega] at this
  exact this

/-- The same, the frame behind the head written out. -/
theorem wp_region_effs' {id : Nat} {l : List Oper} {a0 : Act} {w0 : World} (n : Nat) (R : World → World → Prop) (E : Nat → World → World → Prop) (Pre : Nat → World → Prop) (F : Nat → Value → World → Prop) (hm : P.follows .mixedOrders = true)
    (hok : regOk l.toArray n a0.tmps.size = true) (hR0 : R w0 w0.drew) (hRt : ∀ i a b c, R a b → E i b c → R a c) (hP0 : ∀ i, i < n → Pre i w0.drew) (hF : ∀ i j v w w', i ≠ j → F j v w → E i w w' → F j v w') (hPr : ∀ i j w w', i ≠ j → Pre j w → E i w w' → Pre j w')
    (hsteps : stepsE P l.toArray Q R E Pre F n a0 w0 0 (l.take n))
    (hend : ∀ f w, R w0 w → factsV F f w 0 (l.take n) → wpList P l.toArray Q (l.drop n) ⟨setAll a0.tmps f (headDsts l.toArray n), a0.defers⟩ w) :
    (Code.region id l.toArray true).wp P Q a0 w0 :=
  wp_region_effs n R E Pre F hm hok hR0 hRt hP0 hF hPr hsteps fun a w hR hs hf => by
    rw [act_of_sameBut hs]
    exact hend _ w hR (factsV_of _ _ hf)

end
end Go.Proofs.YtghgffhcdnmpnaaGreat
