/-
  A law for a region that draws its order: each operation of its head yields a value of which a fact is known, whatever the order; its tail runs in the text's order. No program in sight. Conditions: those of the law's premises.
-/
import Derived.StillTail
import Derived.WalkKit
namespace Go.Proofs.YtghgffhcdnmpnaaGreat
open Go.RowKit

section
variable {P : Program} {ops : Array Oper} {Q : Exit → Act → World → Prop}

/-- What is known of operation i's value. -/
def dstFact (F : Nat → Value → World → Prop) (i : Nat) (o : Oper) (a : Act) (w : World) : Prop :=
  match o.dst with
  | some d => F i (a.tmps[d]?.getD undef) w
  | none => F i undef w

/-- What is known of the values that an operation waits for. -/
def deps (ops : Array Oper) (F : Nat → Value → World → Prop) (a : Act) (w : World) : List Edge → Prop
  | [] => True
  | e :: r => (Region.binds .any e = true → match ops[e.on]? with | some o => dstFact F e.on o a w | none => True) ∧ deps ops F a w r

def headDsts (ops : Array Oper) (n : Nat) : List Tmp := (ops.toList.take n).filterMap (·.dst)

/-- The act, but for the head's slots, is the old one. -/
def sameBut (ds : List Tmp) (a0 a : Act) : Prop := a.defers = a0.defers ∧ a.tmps.size = a0.tmps.size ∧ ∀ t, t ∉ ds → a.tmps[t]? = a0.tmps[t]?

/-- What a step of the head leaves. -/
def StepPost (R : World → World → Prop) (F : Nat → Value → World → Prop) (i : Nat) (o : Oper) (a : Act) (w : World) (a' : Act) (w' : World) : Prop :=
  ∃ v, a' = a.put o.dst v ∧ R w w' ∧ F i v w' ∧ (o.dst = none → F i undef w')
theorem StepPost.mk {R : World → World → Prop} {F : Nat → Value → World → Prop} {i : Nat} {o : Oper} {a : Act} {w w' : World} {v : Value} (h1 : R w w') (h2 : F i v w') (hd : o.dst.isSome = true) : StepPost R F i o a w (a.put o.dst v) w' :=
  ⟨v, rfl, h1, h2, fun h => by rw [h] at hd; cases hd⟩

def stepP (P : Program) (ops : Array Oper) (Q : Exit → Act → World → Prop) (R : World → World → Prop) (F : Nat → Value → World → Prop) (n : Nat) (a0 : Act) (w0 : World) (i : Nat) (o : Oper) : Prop :=
  ∀ a w, R w0 w → sameBut (headDsts ops n) a0 a → deps ops F a w o.after.toList → o.wp P a w (StepPost R F i o a w) Q

def steps (P : Program) (ops : Array Oper) (Q : Exit → Act → World → Prop) (R : World → World → Prop) (F : Nat → Value → World → Prop) (n : Nat) (a0 : Act) (w0 : World) : Nat → List Oper → Prop
  | _, [] => True
  | i, o :: l => stepP P ops Q R F n a0 w0 i o ∧ steps P ops Q R F n a0 w0 (i + 1) l

theorem steps_at {R : World → World → Prop} {F : Nat → Value → World → Prop} {n : Nat} {a0 : Act} {w0 : World} : ∀ (l : List Oper) (k : Nat), steps P ops Q R F n a0 w0 k l → ∀ j o, l[j]? = some o → stepP P ops Q R F n a0 w0 (k + j) o
  | [], _, _, j, o, h => by simp at h
  | x :: l, k, h, 0, o, hj => by
    have : x = o := by simpa using hj
    subst this
    exact h.1
  | x :: l, k, h, j + 1, o, hj => by
    have := steps_at l (k + 1) h.2 j o (by simpa using hj)
    rwa [show k + (j + 1) = k + 1 + j by omega]

def facts (F : Nat → Value → World → Prop) (a : Act) (w : World) : Nat → List Oper → Prop
  | _, [] => True
  | i, o :: l => dstFact F i o a w ∧ facts F a w (i + 1) l

theorem facts_of {F : Nat → Value → World → Prop} {a : Act} {w : World} : ∀ (l : List Oper) (k : Nat), (∀ j o, l[j]? = some o → dstFact F (k + j) o a w) → facts F a w k l
  | [], _, _ => trivial
  | x :: l, k, h => ⟨h 0 x rfl, facts_of l (k + 1) (fun j o hj => by have := h (j + 1) o (by simpa using hj); rwa [show k + (j + 1) = k + 1 + j by omega] at this)⟩

/-- The region's form: no guard, each edge leads back, slots are written once, the tail is forced. -/
def regOk (ops : Array Oper) (n size : Nat) : Bool :=
  decide (n < ops.size) && Region.sinkB .any ops n && Region.chainB .any ops n &&
  (ops.toList.take n).all (fun o => o.guard.isNone) &&
  (List.range n).all (fun i => match ops[i]? with | some o => o.after.toList.all (fun e => !Region.binds .any e || decide (e.on < i)) | none => true) &&
  decide ((headDsts ops n).Nodup) && (headDsts ops n).all (fun d => decide (d < size)) &&
  Region.seqB .any ops (ops.size - n) n ((List.replicate n true ++ List.replicate (ops.size - n) false).toArray)

def left (n : Nat) (listed : Array Bool) : List Nat := (List.range n).filter (fun i => !listed.getD i true)

theorem left_set {n i : Nat} {listed : Array Bool} (hi : i < n) (hl : listed.getD i true = false) : (left n (listed.setIfInBounds i true)).length + 1 = (left n listed).length := by
  have hsz : i < listed.size := by
    rcases Nat.lt_or_ge i listed.size with h | h
    · exact h
    · simp [Array.getElem?_eq_none h] at hl
  have h1 : left n (listed.setIfInBounds i true) = (left n listed).filter (fun j => decide (j ≠ i)) := by
    unfold left
    rw [List.filter_filter]
    apply List.filter_congr
    intro j _
    by_cases hj : j = i
    · subst hj
      simp [hsz]
    · have : (listed.setIfInBounds i true).getD j true = listed.getD j true := by
        simp [Array.getElem?_setIfInBounds_ne (Ne.symm hj)]
      rw [this]
      simp [hj]
  have hm : i ∈ left n listed := List.mem_filter.2 ⟨by simpa using hi, by simpa using hl⟩
  have hn : (left n listed).Nodup := (List.filter_sublist).nodup List.nodup_range
  rw [h1]
  have : ∀ (l : List Nat), l.Nodup → i ∈ l → (l.filter (fun j => decide (j ≠ i))).length + 1 = l.length := by
    intro l
    induction l with
    | nil => intro _ h; cases h
    | cons x l ih =>
      intro hnd hm
      have hnd' := List.nodup_cons.1 hnd
      by_cases hx : x = i
      · subst hx
        simp
        exact fun y hy e => hnd'.1 (e ▸ hy)
      · have hm' : i ∈ l := by
          rcases List.mem_cons.1 hm with h | h
          · exact absurd h.symm hx
          · exact h
        simp [hx]
        have := ih hnd'.2 hm'
        simpa using this
  exact this _ hn hm

theorem wpAny_facts {R : World → World → Prop} {F : Nat → Value → World → Prop} {n : Nat} {a0 : Act} {w0 : World} (hRt : ∀ a b c, R a b → R b c → R a c) (hF : ∀ i v w w', F i v w → R w w' → F i v w')
    (hok : regOk ops n a0.tmps.size = true) (hsteps : steps P ops Q R F n a0 w0 0 (ops.toList.take n))
    (hend : ∀ a w, R w0 w → sameBut (headDsts ops n) a0 a → facts F a w 0 (ops.toList.take n) → wpList P ops Q (ops.toList.drop n) a w) :
    ∀ (c : Nat) (listed : Array Bool) (a : Act) (w : World), (left n listed).length = c → HeadInv .any ops n listed → R w0 w → sameBut (headDsts ops n) a0 a →
      (∀ i o, i < n → ops[i]? = some o → listed.getD i true = true → dstFact F i o a w) → wpAny P .any ops Q (c + (ops.size - n)) listed a w := by
  simp only [regOk, Bool.and_eq_true, decide_eq_true_eq] at hok
  obtain ⟨⟨⟨⟨⟨⟨⟨hn, hsink⟩, hchain⟩, hguard⟩, hback⟩, hnd⟩, hdl⟩, hseq⟩ := hok
  intro c
  induction c with
  | zero =>
    intro listed a w hc inv hR hs hfacts
    have hall : ∀ i, i < n → listed.getD i true = true := by
      intro i hi
      cases hl : listed.getD i true with
      | true => rfl
      | false =>
        have : i ∈ left n listed := List.mem_filter.2 ⟨by simpa using hi, by simpa using hl⟩
        have := List.length_pos_of_mem this
        omega
    have he : listed = (List.replicate n true ++ List.replicate (ops.size - n) false).toArray := by
      apply Array.ext
      · simp [inv.size]; omega
      · intro i h1 h2
        rcases Nat.lt_or_ge i n with hi | hi
        · have := hall i hi
          simp [h1] at this
          simp [this, hi]
        · have := inv.tail i hi (by rw [← inv.size]; exact h1)
          simp [h1] at this
          simp only [List.getElem_toArray]
          rw [List.getElem_append_right (by simpa using hi)]
          simp [this]
    rw [Nat.zero_add]
    have hd : (ops.toList.drop n).length = ops.size - n := by simp
    have := wpAny_of_seq (P := P) (md := .any) (ops := ops) (Q' := Q) (ops.toList.drop n) n listed a w (fun j => by simp [List.getElem?_drop]) (by rw [hd, he]; exact hseq)
      (hend a w hR hs (facts_of _ _ (fun j o hj => by
        have hjn : j < n := by
          have := (List.getElem?_eq_some_iff.1 hj).1
          simp at this
          omega
        have hjo : ops[j]? = some o := by
          rw [List.getElem?_take] at hj
          simpa [hjn] using hj
        simpa using hfacts j o hjn hjo (hall j hjn))))
    rwa [hd] at this
  | succ c ih =>
    intro listed a w hc inv hR hs hfacts
    rw [show c + 1 + (ops.size - n) = (c + (ops.size - n)) + 1 by omega]
    have hex : ∃ i, i ∈ left n listed := by
      cases h : left n listed with
      | nil => rw [h] at hc; simp at hc
      | cons x l => exact ⟨x, .head _⟩
    -- the least one that is left is ready
    have hready : Region.ready .any ops listed ≠ [] := by
      obtain ⟨i0, hi0⟩ := hex
      have : ∃ i, i ∈ left n listed ∧ ∀ j, j < i → j ∉ left n listed := by
        induction i0 using Nat.strongRecOn with
        | _ i0 ih0 =>
          rcases Classical.em (∃ j, j < i0 ∧ j ∈ left n listed) with ⟨j, h1, h2⟩ | h
          · exact ih0 j h1 h2
          · exact ⟨i0, hi0, fun j hj hm => h ⟨j, hj, hm⟩⟩
      obtain ⟨i, him, hmin⟩ := this
      have h1 := List.mem_filter.1 him
      have hin : i < n := by simpa using h1.1
      have hlf : listed.getD i true = false := by simpa using h1.2
      have hio : i < ops.size := by omega
      have hmem : i ∈ Region.ready .any ops listed := by
        refine mem_ready.2 ⟨hlf, ops[i], by simp [hio], fun e he hb => ?_⟩
        have hb1 := List.all_eq_true.1 hback i (by simpa using hin)
        simp only [Array.getElem?_eq_getElem hio] at hb1
        have hb2 := List.all_eq_true.1 hb1 e (by simpa using he)
        simp only [hb, Bool.not_true, Bool.false_or, decide_eq_true_eq] at hb2
        have hne := hmin e.on hb2
        cases hl : listed.getD e.on false with
        | true => rfl
        | false =>
          exact absurd (List.mem_filter.2 ⟨by simp; omega, by
            have := getD_in (listed := listed) (i := e.on) (by rw [inv.size]; omega) hl
            simpa using this⟩) hne
      intro h0
      rw [h0] at hmem
      cases hmem
    refine ⟨fun h0 => absurd h0 hready, fun i hi => ?_⟩
    obtain ⟨i0, hi0⟩ := hex
    have hi0' := List.mem_filter.1 hi0
    have hin : i < n := by
      rcases Nat.lt_or_ge i n with h | h
      · exact h
      · exact absurd hi (tail_waits hsink hchain hn inv (n - i0) i0 rfl (by simpa using hi0'.1) (by simpa using hi0'.2) i h)
    obtain ⟨hlf, oi, hoi, hall⟩ := mem_ready.1 hi
    have hst := steps_at (ops.toList.take n) 0 hsteps i oi (by rw [List.getElem?_take]; simpa [hin] using hoi)
    rw [Nat.zero_add] at hst
    have hg : oi.guard = none := by
      have := List.all_eq_true.1 hguard oi (List.mem_of_getElem? (i := i) (by rw [List.getElem?_take]; simpa [hin] using hoi))
      simpa using this
    have hdeps : ∀ l : List Edge, (∀ e ∈ l, e ∈ oi.after) → deps ops F a w l := by
      intro l
      induction l with
      | nil => intro _; trivial
      | cons e l ihl =>
        intro hl
        refine ⟨fun hb => ?_, ihl (fun x hx => hl x (.tail _ hx))⟩
        have hlist := hall e (hl e (.head _)) hb
        have hb1 := List.all_eq_true.1 hback i (by simpa using hin)
        simp only [hoi] at hb1
        have hb2 := List.all_eq_true.1 hb1 e (by simpa using hl e (.head _))
        simp only [hb, Bool.not_true, Bool.false_or, decide_eq_true_eq] at hb2
        cases hoe : ops[e.on]? with
        | none => trivial
        | some oe =>
          refine hfacts e.on oe (by omega) hoe ?_
          cases h : listed.getD e.on true with
          | true => rfl
          | false => rw [getD_both h] at hlist; cases hlist
    have hrun := hst a w hR hs (hdeps _ (fun e he => by simpa using he))
    unfold wpOp
    simp only [hoi]
    rw [if_pos (by simp [Region.wanted, hg])]
    refine .inl (Oper.wp_mono ?_ hrun)
    rintro a' w' ⟨v, rfl, hRw, hFv, hFn⟩
    refine ih (listed.setIfInBounds i true) _ w' (by have := left_set hin hlf; omega) (inv.set hi hin) (hRt _ _ _ hR hRw) ?_ ?_
    · cases hd : oi.dst with
      | none => exact hs
      | some d =>
        refine ⟨hs.1, by simpa [Act.put] using hs.2.1, fun t ht => ?_⟩
        have hdm : d ∈ headDsts ops n := List.mem_filterMap.2 ⟨oi, List.mem_of_getElem? (i := i) (by rw [List.getElem?_take]; simpa [hin] using hoi), hd⟩
        have hne : d ≠ t := fun e => ht (e ▸ hdm)
        simp only [Act.put, Array.getElem?_setIfInBounds_ne hne]
        exact hs.2.2 t ht
    · intro j o hjn hjo hlj
      by_cases hij : j = i
      · subst hij
        obtain rfl : oi = o := Option.some.inj (hoi.symm.trans hjo)
        unfold dstFact
        cases hd : oi.dst with
        | none => exact hFn hd
        | some d =>
          have hdm : d ∈ headDsts ops n := List.mem_filterMap.2 ⟨oi, List.mem_of_getElem? (i := j) (by rw [List.getElem?_take]; simpa [hin] using hoi), hd⟩
          have hdlt : d < a.tmps.size := by
            have := List.all_eq_true.1 hdl d hdm
            rw [hs.2.1]
            simpa using this
          simp [Act.put, hdlt, hFv]
      · have hlj' : listed.getD j true = true := by
          simpa [Array.getElem?_setIfInBounds_ne (Ne.symm hij)] using hlj
        have h0 := hfacts j o hjn hjo hlj'
        unfold dstFact at h0 ⊢
        cases hdj : o.dst with
        | none => rw [hdj] at h0; exact hF _ _ _ _ h0 hRw
        | some dj =>
          rw [hdj] at h0
          have heq : (a.put oi.dst v).tmps[dj]? = a.tmps[dj]? := by
            cases hd : oi.dst with
            | none => rfl
            | some d =>
              have hne : d ≠ dj := by
                intro e
                subst e
                -- two operations of the head that write one slot
                have hh : ∀ (l : List Oper) (p q : Nat) (x y : Oper), p < q → l[p]? = some x → l[q]? = some y → x.dst = some d → y.dst = some d → ¬ (l.filterMap (·.dst)).Nodup := by
                  intro l
                  induction l with
                  | nil => intro p q x y _ h; simp at h
                  | cons z l ihl =>
                    intro p q x y hpq h1 h2 h3 h4 hnod
                    cases q with
                    | zero => omega
                    | succ q =>
                      cases p with
                      | zero =>
                        have hz : z = x := by simpa using h1
                        subst hz
                        rw [List.filterMap_cons_some h3] at hnod
                        have h5 := (List.nodup_cons.1 hnod).1
                        exact h5 (List.mem_filterMap.2 ⟨y, List.mem_of_getElem? (i := q) (by simpa using h2), h4⟩)
                      | succ p =>
                        have hnod' : (l.filterMap (·.dst)).Nodup := by
                          cases hz : z.dst with
                          | none => rwa [List.filterMap_cons_none hz] at hnod
                          | some dz => rw [List.filterMap_cons_some hz] at hnod; exact (List.nodup_cons.1 hnod).2
                        exact ihl p q x y (by omega) (by simpa using h1) (by simpa using h2) h3 h4 hnod'
                have hti : (ops.toList.take n)[i]? = some oi := by rw [List.getElem?_take]; simpa [hin] using hoi
                have htj : (ops.toList.take n)[j]? = some o := by rw [List.getElem?_take]; simpa [hjn] using hjo
                rcases Nat.lt_or_gt_of_ne hij with h | h
                · exact hh _ j i o oi h htj hti hdj hd hnd
                · exact hh _ i j oi o h hti htj hd hdj hnd
              simp only [Act.put, Array.getElem?_setIfInBounds_ne hne]
          show F j ((a.put oi.dst v).tmps[dj]?.getD undef) w'
          rw [heq]
          exact hF _ _ _ _ h0 hRw

/-- A region that draws its order, by the facts of its head's values; its tail by the walk. -/
theorem wp_region_facts {id : Nat} {l : List Oper} {a0 : Act} {w0 : World} (n : Nat) (R : World → World → Prop) (F : Nat → Value → World → Prop) (hm : P.follows .mixedOrders = true)
    (hok : regOk l.toArray n a0.tmps.size = true) (hR0 : R w0 w0.drew) (hRt : ∀ a b c, R a b → R b c → R a c) (hF : ∀ i v w w', F i v w → R w w' → F i v w')
    (hsteps : steps P l.toArray Q R F n a0 w0 0 (l.take n))
    (hend : ∀ a w, R w0 w → sameBut (headDsts l.toArray n) a0 a → facts F a w 0 (l.take n) → wpList P l.toArray Q (l.drop n) a w) :
    (Code.region id l.toArray true).wp P Q a0 w0 := by
  refine wp_region_any hm ?_
  have hn : n < l.length := by
    simp only [regOk, Bool.and_eq_true, decide_eq_true_eq] at hok
    simpa using hok.1.1.1.1.1.1.1
  have inv0 : HeadInv .any l.toArray n (Array.replicate l.toArray.size false) :=
    ⟨by simp, fun j oj _ hl => (by rw [getD_replicate_false] at hl; cases hl), fun t _ ht => getD_in (by simpa using ht) (getD_replicate_false _ _)⟩
  have hleft : (left n (Array.replicate l.toArray.size false)).length = n := by
    unfold left
    rw [List.filter_eq_self.2 (fun i hi => by
      have : i < l.length := by have := List.mem_range.1 hi; omega
      simp [this])]
    simp
  have := wpAny_facts (P := P) (Q := Q) hRt hF hok (by simpa using hsteps) (by simpa using hend) n (Array.replicate l.toArray.size false) a0 w0.drew hleft inv0 hR0 ⟨rfl, rfl, fun _ _ => rfl⟩
    (fun i o hi _ hl => by
      have : i < l.length := by omega
      simp [this] at hl)
  rw [show n + (l.toArray.size - n) = l.toArray.size by simp; omega] at this
  exact this

def setAll (tmps : Array Value) (f : Nat → Value) : List Tmp → Array Value
  | [] => tmps
  | d :: r => setAll (tmps.setIfInBounds d (f d)) f r

theorem setAll_size (f : Nat → Value) : ∀ (ds : List Tmp) (tmps : Array Value), (setAll tmps f ds).size = tmps.size
  | [], _ => rfl
  | d :: r, tmps => by rw [setAll, setAll_size f r]; simp
theorem setAll_other (f : Nat → Value) {t : Tmp} : ∀ (ds : List Tmp) (tmps : Array Value), t ∉ ds → (setAll tmps f ds)[t]? = tmps[t]?
  | [], _, _ => rfl
  | d :: r, tmps, h => by
    have h' : t ≠ d ∧ t ∉ r := ⟨fun e => h (e ▸ .head _), fun e => h (.tail _ e)⟩
    rw [setAll, setAll_other f r _ h'.2, Array.getElem?_setIfInBounds_ne (Ne.symm h'.1)]
theorem setAll_same (f : Nat → Value) {t : Tmp} : ∀ (ds : List Tmp) (tmps : Array Value), t ∈ ds → t < tmps.size → (setAll tmps f ds)[t]? = some (f t)
  | d :: r, tmps, h, hl => by
    rw [setAll]
    rcases Classical.em (t ∈ r) with hr | hr
    · exact setAll_same f r _ hr (by simpa using hl)
    · rw [setAll_other f r _ hr]
      rcases List.mem_cons.1 h with rfl | h
      · simp [hl]
      · exact absurd h hr
theorem act_of_sameBut {ds : List Tmp} {a0 a : Act} (h : sameBut ds a0 a) : a = ⟨setAll a0.tmps (fun d => a.tmps[d]?.getD undef) ds, a0.defers⟩ := by
  obtain ⟨h1, h2, h3⟩ := h
  cases a with
  | mk tmps defers =>
    simp only at h1 h2 h3
    subst h1
    congr 1
    apply Array.ext_getElem?
    intro t
    rcases Classical.em (t ∈ ds) with ht | ht
    · rcases Nat.lt_or_ge t tmps.size with hl | hl
      · rw [setAll_same _ ds _ ht (by rw [← h2]; exact hl)]
        simp [hl]
      · rw [Array.getElem?_eq_none hl, Array.getElem?_eq_none (by rw [setAll_size, ← h2]; exact hl)]
    · rw [setAll_other _ ds _ ht]
      exact h3 t ht

def factsV (F : Nat → Value → World → Prop) (f : Nat → Value) (w : World) : Nat → List Oper → Prop
  | _, [] => True
  | i, o :: l => (match o.dst with | some d => F i (f d) w | none => F i undef w) ∧ factsV F f w (i + 1) l
theorem factsV_of {F : Nat → Value → World → Prop} {a : Act} {w : World} : ∀ (l : List Oper) (k : Nat), facts F a w k l → factsV F (fun d => a.tmps[d]?.getD undef) w k l
  | [], _, _ => trivial
  | _ :: l, k, h => ⟨h.1, factsV_of l (k + 1) h.2⟩

/-- The same, the frame behind the head written out. -/
theorem wp_region_facts' {id : Nat} {l : List Oper} {a0 : Act} {w0 : World} (n : Nat) (R : World → World → Prop) (F : Nat → Value → World → Prop) (hm : P.follows .mixedOrders = true)
    (hok : regOk l.toArray n a0.tmps.size = true) (hR0 : R w0 w0.drew) (hRt : ∀ a b c, R a b → R b c → R a c) (hF : ∀ i v w w', F i v w → R w w' → F i v w')
    (hsteps : steps P l.toArray Q R F n a0 w0 0 (l.take n))
    (hend : ∀ f w, R w0 w → factsV F f w 0 (l.take n) → wpList P l.toArray Q (l.drop n) ⟨setAll a0.tmps f (headDsts l.toArray n), a0.defers⟩ w) :
    (Code.region id l.toArray true).wp P Q a0 w0 :=
  wp_region_facts n R F hm hok hR0 hRt hF hsteps fun a w hR hs hf => by
    rw [act_of_sameBut hs]
    exact hend _ w hR (factsV_of _ _ hf)

/-- An operation that yields a value. -/
theorem ow_value {o : Oper} {a : Act} {w w' : World} {v : Value} {K : Act → World → Prop} (hrun : (execOp a.eval o).run P w = .ok (.value v) w') (h : K (a.put o.dst v) w') : o.wp P a w K Q := by
  unfold Oper.wp
  rw [hrun]
  exact h
/-- An operation that yields none. -/
theorem ow_skip {o : Oper} {a : Act} {w w' : World} {K : Act → World → Prop} (hrun : (execOp a.eval o).run P w = .ok .skip w') (h : K (a.put o.dst undef) w') : o.wp P a w K Q := by
  unfold Oper.wp
  rw [hrun]
  exact h
/-- A call that is entered, by its contract. -/
theorem ow_call {o : Oper} {a : Act} {w w' : World} {f : FuncId} {args : Array Value} {K : Act → World → Prop} {C : Ending → World → Prop} (hrun : (execOp a.eval o).run P w = .ok (.enter f args) w') (hc : Calls P f args w' C)
    (h : ∀ e w'', C e w'' → ∃ v, e = .returned v ∧ K (a.put o.dst v) w'') : o.wp P a w K Q := by
  unfold Oper.wp
  rw [hrun]
  refine hc.mono fun e w'' he => ?_
  obtain ⟨v, rfl, hk⟩ := h e w'' he
  exact hk
end
end Go.Proofs.YtghgffhcdnmpnaaGreat
