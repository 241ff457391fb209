/-
  The two sticky strategies (PlanQ). Conditions: those of their Plan.
-/
import Derived.Test.YtghgffhcdnmpnaaGreatZK4
import Derived.Test.YtghgffhcdnmpnaaGreatZO19
import Derived.Test.YtghgffhcdnmpnaaGreatZM1
namespace Go.Proofs.YtghgffhcdnmpnaaGreat
open Go.RowKit Go.Sort Go.MapKept
theorem mem_seqOf {L : List (ByteArray × List TP)} {k t : ByteArray} {p : Int} (h : (k, t, p) ∈ seqOf L) : k ∈ L.map Prod.fst ∧ (t, p) ∈ given L := by
  obtain ⟨e, he, h2⟩ := List.mem_flatMap.1 h
  obtain ⟨x, hx, h3⟩ := List.mem_map.1 h2
  injection h3 with h4 h5
  subst h4
  have h6 : x = (t, p) := h5
  subst h6
  exact ⟨List.mem_map.2 ⟨e, he, rfl⟩, List.mem_flatMap.2 ⟨e, he, hx⟩⟩
theorem seqOf_snd (L : List (ByteArray × List TP)) : (seqOf L).map Prod.snd = given L := by
  unfold seqOf given
  rw [List.map_flatMap]
  congr 1
  funext e
  rw [List.map_map]
  conv => rhs; rw [← List.map_id e.2]
  rfl
theorem gives_length_le (s : List (ByteArray × ByteArray × Int)) (k t : ByteArray) : (gives s k t).length ≤ s.length := by
  unfold gives
  rw [List.length_map]
  exact List.length_filter_le _ _
theorem gives_ne {s : List (ByteArray × ByteArray × Int)} {k t : ByteArray} (h : gives s k t ≠ []) : ∃ p, (k, t, p) ∈ s := by
  obtain ⟨p, hp⟩ := List.exists_mem_of_ne_nil _ h
  exact ⟨p, mem_gives.1 hp⟩
theorem goodSt_few {l : List (ByteArray × List ByteArray)} {tm : List (ByteArray × List Int)} {F : ByteArray → ByteArray → List Int} (h : GoodSt l tm F) (ht : Told l tm) (hp : PreS l tm) : Few tm F := by
  obtain ⟨L, _, h2, _, rfl⟩ := h
  refine ⟨fun k t hne => ?_, fun k t => ?_⟩
  · obtain ⟨p, hm⟩ := gives_ne hne
    obtain ⟨x, hx, hx2⟩ := List.mem_flatMap.1 (h2.mem_iff.1 (mem_seqOf hm).2)
    obtain ⟨q, _, hq⟩ := List.mem_map.1 hx2
    have : x.1 = t := congrArg Prod.fst hq
    rw [← this]
    exact List.mem_map.2 ⟨x, hx, rfl⟩
  · have h3 := gives_length_le (seqOf L) k t
    have h4 : (seqOf L).length = (given L).length := by rw [← seqOf_snd, List.length_map]
    have h5 := h2.length_eq
    have h6 := pairsOf_len (L := tm) (fun x hx => (hp.tops x hx).2.1)
    have h7 := ht.twelve
    omega
theorem planSticky_ok (coop : Bool) (T : TypeId) (hT : T = 140 ∨ T = 145) (W : World) (bs mb tb : Nat) (l : List (ByteArray × List ByteArray)) (tm : List (ByteArray × List Int)) (hO : OkS coop T bs W) (hM : MmAt W (fun x => x < W.heap.size) mb l) (hTM : TmAt W (fun x => x < W.heap.size) tb tm) (ht : Told l tm) (hp : PreS l tm) :
    Calls Tryz.prog 193 #[.pointer (some ⟨bs, 0, none⟩), .map (some mb), .map (some tb)] W fun e w' => ∃ pb S F, e = .returned (.tuple #[.map (some pb), .nilIface]) ∧ PlanIs w' S pb F ∧ (∀ x ∈ S, W.heap.size ≤ x) ∧ GoodSt l tm F ∧ Few tm F ∧ KC bs W w' := by
  obtain ⟨⟨cs, h1⟩, h2, h3⟩ := hO
  refine (planSticky_any coop bs mb tb cs T l tm W h1 hT (fun o ho => ?_) ?_ _ hM hTM (fun _ h => h) ht hp).mono fun e w' ⟨pb, S, F, k1, k2, k3, k4, k5⟩ => ⟨pb, S, F, k1, k2, k3, k4, goodSt_few k4 ht hp, k5⟩
  · obtain ⟨m, hm⟩ := h2 o ho
    rw [cell_of_row _ _ _ _ _ _ h1] at hm
    exact ⟨m, hm⟩
  · rw [cell_of_row _ _ _ _ _ _ h1] at h3
    exact h3
set_option maxRecDepth 100000 in
theorem planQ2 : PlanQ 2 134 193 (OkS false 140) GoodSt PreS where
  made := strategy2
  ok := fun _ _ _ h k => h.kept0 k
  okc := fun _ _ _ _ h k => h.kc k
  find := fun b w => find134 _ w
  ahead := ahead134
  enters := enters_of Tryz.func193 (by kernel_rfl) rfl
  call := fun W bs mb tb l tm hO hM hT ht hp => planSticky_ok false 140 (.inl rfl) W bs mb tb l tm hO hM hT ht hp
set_option maxRecDepth 100000 in
theorem planQ3 : PlanQ 3 141 193 (OkS true 145) GoodSt PreS where
  made := strategy3
  ok := fun _ _ _ h k => h.kept0 k
  okc := fun _ _ _ _ h k => h.kc k
  find := find141
  ahead := ahead141
  enters := enters_of Tryz.func193 (by kernel_rfl) rfl
  call := fun W bs mb tb l tm hO hM hT ht hp => planSticky_ok true 145 (.inr rfl) W bs mb tb l tm hO hM hT ht hp
end Go.Proofs.YtghgffhcdnmpnaaGreat
/-
  Plans one by one: what each strategy gives as a row of gifts, and that the plan holds just these. In plain Lean. Conditions: those of each lemma.
-/
namespace Go.Proofs.YtghgffhcdnmpnaaGreat
open Go.RowKit Go.Sort
/-- What a plan gives, one by one. -/
def flatP (P : List Sh) : List (ByteArray × ByteArray × Int) := P.flatMap fun x => x.parts.map fun p => (x.mem, x.top, p)
theorem flatP_cons (x : Sh) (P : List Sh) : flatP (x :: P) = (x.parts.map fun p => (x.mem, x.top, p)) ++ flatP P := by simp [flatP]
theorem flatP_snoc (P : List Sh) (x : Sh) : flatP (P ++ [x]) = flatP P ++ x.parts.map fun p => (x.mem, x.top, p) := by simp [flatP]
theorem flat_share (m t : ByteArray) (p : Int) : ∀ l : List Sh, (flatP (shareP l m t p)).Perm (flatP l ++ [(m, t, p)])
  | [] => by simp [shareP, flatP]
  | x :: r => by
    unfold shareP
    split
    · rename_i h
      obtain ⟨h1, h2⟩ := h
      rw [flatP_cons, flatP_cons]
      simp only [List.map_append, List.map_cons, List.map_nil, h1, h2]
      rw [List.append_assoc, List.append_assoc]
      exact (List.perm_append_comm (l₁ := [(m, t, p)]) (l₂ := flatP r)).append_left _
    · split
      · rw [flatP_cons (⟨m, t, [p]⟩ : Sh)]
        simp only [List.map_cons, List.map_nil]
        exact List.perm_append_comm (l₁ := [(m, t, p)])
      · rw [flatP_cons, flatP_cons, List.append_assoc]
        exact (flat_share m t p r).append_left _
theorem flat_shares (s : List (ByteArray × ByteArray × Int)) : (flatP (sharesP s)).Perm s := by
  rw [← List.reverse_reverse s]
  induction s.reverse with
  | nil => exact List.Perm.refl _
  | cons x r ih =>
    obtain ⟨m, t, p⟩ := x
    rw [List.reverse_cons, sharesP_snoc]
    exact (flat_share m t p _).trans (ih.append_right _)
/-- A plan gives each partition once, to a member that wants its topic. -/
structure Whole (ms : List MV) (ts : List Sh) (P : List Sh) : Prop where
  mem : ∀ x ∈ P, ∃ m ∈ ms, m.id = x.mem ∧ x.top ∈ m.tops
  pairs : ((flatP P).map Prod.snd).Perm (pairsOf (topList ts))
theorem whole_seq {ms : List MV} {ts : List Sh} {seq : List (ByteArray × ByteArray × Int)} (hi : (ms.map MV.id).Nodup) (ht : (ts.map Sh.top).Nodup) (h1 : ∀ x ∈ seq, ∃ m ∈ ms, m.id = x.1 ∧ x.2.1 ∈ m.tops) (h2 : (seq.map Prod.snd).Perm (pairsOf (topList ts))) :
    Whole ms ts (canon (gives seq) (ms.map MV.id) (ts.map Sh.top)) ∧ (flatP (canon (gives seq) (ms.map MV.id) (ts.map Sh.top))).Perm seq := by
  have hr := canon_reads (F := gives seq) hi ht (fun m t hne => by
    obtain ⟨p, hp⟩ := gives_ne hne
    obtain ⟨a, ha, e1, _⟩ := h1 _ hp
    refine ⟨List.mem_map.2 ⟨a, ha, e1⟩, ?_⟩
    have h3 := h2.mem_iff.1 (List.mem_map.2 ⟨_, hp, rfl⟩)
    obtain ⟨x, hx, hx2⟩ := List.mem_flatMap.1 h3
    obtain ⟨q, _, hq⟩ := List.mem_map.1 hx2
    obtain ⟨s, hs, rfl⟩ := List.mem_map.1 hx
    have : s.top = t := congrArg Prod.fst hq
    exact List.mem_map.2 ⟨s, hs, this⟩)
  have he := Reads.unique hr (sharesP_reads seq)
  have hf : (flatP (canon (gives seq) (ms.map MV.id) (ts.map Sh.top))).Perm seq := by rw [he]; exact flat_shares seq
  refine ⟨⟨fun x hx => ?_, (hf.map _).trans h2⟩, hf⟩
  obtain ⟨h3, h4⟩ := (hr.mem x).1 hx
  rw [h3] at h4
  obtain ⟨p, hp⟩ := gives_ne h4
  exact h1 _ hp
theorem Whole.tops {ms : List MV} {ts P : List Sh} (h : Whole ms ts P) : ∀ x ∈ P, ∀ p ∈ x.parts, ∃ s ∈ ts, s.top = x.top ∧ p ∈ s.parts := by
  intro x hx p hp
  have h1 : (x.top, p) ∈ (flatP P).map Prod.snd := List.mem_map.2 ⟨(x.mem, x.top, p), List.mem_flatMap.2 ⟨x, hx, List.mem_map.2 ⟨p, hp, rfl⟩⟩, rfl⟩
  obtain ⟨y, hy, hy2⟩ := List.mem_flatMap.1 (h.pairs.mem_iff.1 h1)
  obtain ⟨q, hq, hq2⟩ := List.mem_map.1 hy2
  obtain ⟨s, hs, rfl⟩ := List.mem_map.1 hy
  injection hq2 with e1 e2
  exact ⟨s, hs, e1, e2 ▸ hq⟩
/-- A pair that a plan gives stands at one place of it. -/
theorem flat_once {P : List Sh} (hn : ((flatP P).map Prod.snd).Nodup) {n i m k : Nat} {y x : Sh} {q p : Int} (hy : P[n]? = some y) (hx : P[i]? = some x) (hq : y.parts[m]? = some q) (hp : x.parts[k]? = some p) (hlt : n < i ∨ (n = i ∧ m < k)) : ¬ (y.top = x.top ∧ q = p) := by
  rintro ⟨e1, e2⟩
  have hc : ∀ (x : Sh) (p : Int), (fun a : ByteArray × ByteArray × Int => a.2) (x.mem, x.top, p) = (x.top, p) := fun _ _ => rfl
  rcases hlt with h | ⟨rfl, h⟩
  · obtain ⟨hi, hxi⟩ := List.getElem?_eq_some_iff.1 hx
    have e3 : P = P.take i ++ x :: P.drop (i + 1) := by rw [← hxi, ← List.drop_eq_getElem_cons hi, List.take_append_drop]
    rw [e3] at hn
    simp only [flatP, List.flatMap_append, List.flatMap_cons, List.map_append] at hn
    have h4 := (List.nodup_append.1 hn).2.2 (y.top, q) ?_ (x.top, p) ?_
    · exact h4 (by rw [e1, e2])
    · refine List.mem_map.2 ⟨(y.mem, y.top, q), List.mem_flatMap.2 ⟨y, ?_, List.mem_map.2 ⟨q, List.mem_of_getElem? hq, rfl⟩⟩, rfl⟩
      refine List.mem_of_getElem? (i := n) ?_
      rw [List.getElem?_take, if_pos h]
      exact hy
    · exact List.mem_append_left _ (List.mem_map.2 ⟨(x.mem, x.top, p), List.mem_map.2 ⟨p, List.mem_of_getElem? hp, rfl⟩, rfl⟩)
  · have hxy : x = y := Option.some.inj (hx.symm.trans hy)
    subst hxy
    have h5 : (x.parts.map fun p => (x.top, p)).Nodup := by
      obtain ⟨hi, hxi⟩ := List.getElem?_eq_some_iff.1 hx
      have e3 : P = P.take n ++ x :: P.drop (n + 1) := by rw [← hxi, ← List.drop_eq_getElem_cons hi, List.take_append_drop]
      rw [e3] at hn
      simp only [flatP, List.flatMap_append, List.flatMap_cons, List.map_append, List.map_map, Function.comp_def] at hn
      exact (List.nodup_append.1 ((List.nodup_append.1 hn).2.1)).1
    obtain ⟨hm, hmq⟩ := List.getElem?_eq_some_iff.1 hq
    obtain ⟨hk, hkp⟩ := List.getElem?_eq_some_iff.1 hp
    have := List.pairwise_iff_getElem.1 h5 m k (by simpa using hm) (by simpa using hk) h
    rw [List.getElem_map, List.getElem_map, hmq, hkp, e2] at this
    exact this rfl
/-- How many each member has. -/
def counts (ms : List MV) (g : List ByteArray) : List Int := ms.map fun m => ((g.count m.id : Nat) : Int)
theorem counts_nil (ms : List MV) : counts ms [] = List.replicate ms.length 0 := by
  induction ms with
  | nil => rfl
  | cons m ms ih => unfold counts at ih ⊢; rw [List.map_cons, ih]; rfl
theorem counts_len (ms : List MV) (g : List ByteArray) : (counts ms g).length = ms.length := by simp [counts]
theorem counts_get {ms : List MV} {i : Nat} {m : MV} (h : ms[i]? = some m) (g : List ByteArray) : (counts ms g)[i]? = some ((g.count m.id : Nat) : Int) := by simp [counts, h]
theorem counts_step {ms : List MV} (hn : (ms.map MV.id).Nodup) {i : Nat} {m : MV} (h : ms[i]? = some m) (g : List ByteArray) : (counts ms g).set i (((g.count m.id : Nat) : Int) + 1) = counts ms (g ++ [m.id]) := by
  refine List.ext_getElem? fun j => ?_
  rw [List.getElem?_set]
  by_cases hij : i = j
  · subst hij
    have hl := (List.getElem?_eq_some_iff.1 h).1
    rw [if_pos rfl, if_pos (by rw [counts_len]; exact hl), counts_get h, List.count_append]
    simp
  · rw [if_neg hij]
    cases hj : ms[j]? with
    | none => simp [counts, hj]
    | some y =>
      rw [counts_get hj, counts_get hj, List.count_append]
      have hne : ¬ m.id = y.id := by
        intro e
        apply hij
        have h1 := (List.getElem?_eq_some_iff.1 h).1
        have h2 := (List.getElem?_eq_some_iff.1 hj).1
        have h3 : (ms.map MV.id)[i]? = some m.id := by simp [h]
        have h4 : (ms.map MV.id)[j]? = some m.id := by simp [hj, e]
        exact nodup_idx hn h3 h4
      simp [hne]
/-- The members of the gifts of a plan, in its order. -/
def memsOf (P : List Sh) : List ByteArray := (flatP P).map Prod.fst
theorem memsOf_snoc (P : List Sh) (x : Sh) : memsOf (P ++ [x]) = memsOf P ++ List.replicate x.parts.length x.mem := by
  unfold memsOf
  rw [flatP_snoc, List.map_append, List.map_map]
  congr 1
  rw [show ((fun a : ByteArray × ByteArray × Int => a.1) ∘ fun p => (x.mem, x.top, p)) = fun _ => x.mem from rfl, List.map_const']
theorem memsOf_len (P : List Sh) : (memsOf P).length = (flatP P).length := by simp [memsOf]
end Go.Proofs.YtghgffhcdnmpnaaGreat
/-
  What each strategy gives: each partition once, to those that want it; as many to each, or nearly so, where all want all. In plain Lean. Conditions: those of each lemma.
-/
namespace Go.Proofs.YtghgffhcdnmpnaaGreat
open Go.RowKit Go.Sort
/-- Each topic is wanted by a member. -/
def WantAll (ms : List MV) (ts : List Sh) : Prop := ∀ s ∈ ts, ∃ m ∈ ms, s.top ∈ m.tops
/-- All members want all topics. -/
def AllAll (ms : List MV) (ts : List Sh) : Prop := ∀ s ∈ ts, ∀ m ∈ ms, s.top ∈ m.tops
/-- Of a row of gifts each member has as many as each other one, or d more or less. -/
def Spread (d : Nat) (ms : List MV) (seq : List (ByteArray × ByteArray × Int)) : Prop := ∀ m ∈ ms, ∀ m' ∈ ms, (seq.map Prod.fst).count m.id ≤ (seq.map Prod.fst).count m'.id + d
theorem memList_mem {ms : List MV} {p : ByteArray × List ByteArray} (h : p ∈ memList ms) : ∃ m ∈ ms, m.id = p.1 ∧ m.tops = p.2 := by
  obtain ⟨m, hm, rfl⟩ := List.mem_map.1 h
  exact ⟨m, hm, rfl, rfl⟩
theorem memList_ids (ms : List MV) : (memList ms).map Prod.fst = ms.map MV.id := by simp [memList, Function.comp_def]
theorem topList_tops (ts : List Sh) : (topList ts).map Prod.fst = ts.map Sh.top := by simp [topList, Function.comp_def]
theorem wantIds_mem {l : List (ByteArray × List ByteArray)} {t k : ByteArray} (h : k ∈ wantIds l t) : ∃ p ∈ l, p.1 = k ∧ t ∈ p.2 := by
  obtain ⟨p, hp, rfl⟩ := List.mem_map.1 h
  obtain ⟨h1, h2⟩ := List.mem_filter.1 hp
  exact ⟨p, h1, rfl, by simpa using h2⟩
theorem topicSeq_mem {ids : List ByteArray} {t : ByteArray} {ps : List Int} {x : ByteArray × ByteArray × Int} (h : x ∈ topicSeq ids t ps) : x.1 ∈ ids ∧ x.2.1 = t := by
  obtain ⟨k, hk, h2⟩ := List.mem_flatMap.1 h
  obtain ⟨p, _, rfl⟩ := List.mem_map.1 h2
  have hk := List.mem_range.1 hk
  refine ⟨?_, rfl⟩
  show ids.getD k default ∈ ids
  rw [List.getD_eq_getElem?_getD, List.getElem?_eq_getElem hk]
  exact List.getElem_mem hk
theorem range_mem {ms : List MV} {tm : List (ByteArray × List Int)} {x : ByteArray × ByteArray × Int} (h : x ∈ rangeSeq (memList ms) tm) : ∃ m ∈ ms, m.id = x.1 ∧ x.2.1 ∈ m.tops := by
  obtain ⟨y, _, hy⟩ := List.mem_flatMap.1 h
  obtain ⟨h1, h2⟩ := topicSeq_mem hy
  obtain ⟨p, hp, e1, e2⟩ := wantIds_mem ((srt_perm _).mem_iff.1 h1)
  obtain ⟨m, hm, e3, e4⟩ := memList_mem hp
  exact ⟨m, hm, e3.trans e1, by rw [e4, h2]; exact e2⟩
theorem want_ids' {ms : List MV} {ts : List Sh} (h : WantAll ms ts) : ∀ x ∈ topList ts, 0 < (wantIds (memList ms) x.1).length := by
  intro x hx
  obtain ⟨s, hs, rfl⟩ := List.mem_map.1 hx
  obtain ⟨m, hm, hst⟩ := h s hs
  have : m.id ∈ wantIds (memList ms) s.top := List.mem_map.2 ⟨(m.id, m.tops), List.mem_filter.2 ⟨List.mem_map.2 ⟨m, hm, rfl⟩, by simpa using hst⟩, rfl⟩
  exact List.length_pos_of_mem this
theorem round_mem {Lm : List (ByteArray × List ByteArray)} : ∀ {ps : List (ByteArray × Int)} {i : Nat} {x : ByteArray × ByteArray × Int}, x ∈ roundSeq Lm ps i → ∃ p ∈ Lm, p.1 = x.1 ∧ x.2.1 ∈ p.2
  | [], i, x, h => by simp [roundSeq] at h
  | y :: r, i, x, h => by
    unfold roundSeq at h
    split at h
    · rename_i hw
      rcases List.mem_cons.1 h with rfl | h
      · unfold wantsAt at hw
        split at hw
        · rename_i p hp
          refine ⟨p, List.mem_of_getElem? hp, ?_, by simpa using hw⟩
          rw [List.getD_eq_getElem?_getD, hp]
          rfl
        · cases hw
      · exact round_mem h
    · exact round_mem h
theorem round_snd {Lm : List (ByteArray × List ByteArray)} : ∀ {ps : List (ByteArray × Int)} (_ : ∀ x ∈ ps, ∃ p ∈ Lm, x.1 ∈ p.2) (i : Nat), (roundSeq Lm ps i).map Prod.snd = ps
  | [], _, i => by simp [roundSeq]
  | x :: r, h, i => by
    obtain ⟨p, hp, hx⟩ := h x (.head _)
    have h1 := rnext_wants Lm x.1 Lm.length i (wantsAt_some hp hx i)
    unfold roundSeq
    rw [if_pos h1, List.map_cons, round_snd (fun y hy => h y (.tail _ hy))]
/-- The members in turn. -/
def cyc (U : List ByteArray) (i k : Nat) : List ByteArray := (List.range k).map fun j => U.getD ((i + j) % U.length) default
theorem cyc_cons (U : List ByteArray) (i k : Nat) : cyc U i (k + 1) = U.getD (i % U.length) default :: cyc U (i + 1) k := by
  unfold cyc
  rw [List.range_succ_eq_map, List.map_cons, List.map_map]
  congr 1
  refine List.map_congr_left fun j _ => ?_
  simp only [Function.comp_def]
  congr 2
  omega
theorem round_fst {Lm : List (ByteArray × List ByteArray)} (hn : 0 < Lm.length) : ∀ {ps : List (ByteArray × Int)} (_ : ∀ x ∈ ps, ∀ p ∈ Lm, x.1 ∈ p.2) (i : Nat), (roundSeq Lm ps i).map Prod.fst = cyc (Lm.map Prod.fst) i ps.length
  | [], _, i => by simp [roundSeq, cyc]
  | x :: r, h, i => by
    have hw : wantsAt Lm x.1 i = true := by
      have hlt : i % Lm.length < Lm.length := Nat.mod_lt _ hn
      unfold wantsAt
      rw [List.getElem?_eq_getElem hlt]
      simpa using h x (.head _) _ (List.getElem_mem hlt)
    have h1 : rnext Lm x.1 Lm.length i = i := by
      obtain ⟨n, hn'⟩ : ∃ n, Lm.length = n + 1 := ⟨Lm.length - 1, by omega⟩
      rw [hn', rnext_succ, if_pos hw]
    unfold roundSeq
    rw [h1, if_pos hw, List.map_cons, List.length_cons, cyc_cons, round_fst hn (fun y hy => h y (.tail _ hy))]
    congr 1
    have hlt : i % Lm.length < Lm.length := Nat.mod_lt _ hn
    rw [List.length_map, List.getD_eq_getElem?_getD, List.getD_eq_getElem?_getD, List.getElem?_map, List.getElem?_eq_getElem hlt]
    rfl
theorem div_step (k : Nat) {n : Nat} (hn : 0 < n) : (k % n + 1 < n → (k + 1) / n = k / n ∧ (k + 1) % n = k % n + 1) ∧ (¬ k % n + 1 < n → (k + 1) / n = k / n + 1 ∧ (k + 1) % n = 0) := by
  have h1 : k + 1 = n * (k / n) + (k % n + 1) := by have := Nat.div_add_mod k n; omega
  have h2 : (k + 1) / n = k / n + (k % n + 1) / n := by conv => lhs; rw [h1, Nat.mul_add_div hn]
  have h3 : (k + 1) % n = (k % n + 1) % n := by conv => lhs; rw [h1, Nat.mul_add_mod]
  constructor
  · intro h
    rw [h2, h3, Nat.div_eq_of_lt h, Nat.mod_eq_of_lt h]
    exact ⟨rfl, rfl⟩
  · intro h
    have hlt := Nat.mod_lt k hn
    have e : k % n + 1 = n := by omega
    rw [h2, h3, e, Nat.div_self hn, Nat.mod_self]
    exact ⟨rfl, rfl⟩
theorem cyc_count {U : List ByteArray} (hn : 0 < U.length) (hu : U.Nodup) {a : Nat} (ha : a < U.length) : ∀ k, (cyc U 0 k).count U[a] = k / U.length + if a < k % U.length then 1 else 0
  | 0 => by simp [cyc]
  | k + 1 => by
    have ih := cyc_count hn hu ha k
    have h1 : cyc U 0 (k + 1) = cyc U 0 k ++ [U.getD (k % U.length) default] := by
      unfold cyc
      rw [List.range_succ, List.map_append]
      simp
    have hlt : k % U.length < U.length := Nat.mod_lt _ hn
    rw [h1, List.count_append, ih, List.getD_eq_getElem?_getD, List.getElem?_eq_getElem hlt]
    have h2 : [Option.getD (some U[k % U.length]) default].count U[a] = if k % U.length = a then 1 else 0 := by
      by_cases he : k % U.length = a
      · subst he; simp
      · have : U[k % U.length] ≠ U[a] := fun e => he (nodup_idx hu (List.getElem?_eq_getElem hlt) (by rw [List.getElem?_eq_getElem ha, e]))
        simp [this, he]
    rw [h2]
    obtain ⟨hs1, hs2⟩ := div_step k hn
    by_cases hc : k % U.length + 1 < U.length
    · obtain ⟨e1, e2⟩ := hs1 hc
      rw [e1, e2]
      split <;> split <;> split <;> omega
    · obtain ⟨e1, e2⟩ := hs2 hc
      rw [e1, e2]
      split <;> split <;> split <;> omega
theorem round_spread {ms : List MV} {Lm : List (ByteArray × List ByteArray)} (hp : Lm.Perm (memList ms)) (hi : (ms.map MV.id).Nodup) {ps : List (ByteArray × Int)} (h : ∀ x ∈ ps, ∀ p ∈ Lm, x.1 ∈ p.2) : Spread 1 ms (roundSeq Lm ps 0) := by
  intro m hm m' hm'
  have hk : ∀ m ∈ ms, m.id ∈ Lm.map Prod.fst := fun m hm => (hp.map Prod.fst).mem_iff.2 (by rw [memList_ids]; exact List.mem_map.2 ⟨m, hm, rfl⟩)
  have hu : (Lm.map Prod.fst).Nodup := (hp.map Prod.fst).nodup_iff.2 (by rw [memList_ids]; exact hi)
  obtain ⟨a, ha, ea⟩ := List.mem_iff_getElem.1 (hk m hm)
  obtain ⟨b, hb, eb⟩ := List.mem_iff_getElem.1 (hk m' hm')
  have hn : 0 < Lm.length := by simp at ha; omega
  rw [round_fst hn h, ← ea, ← eb, cyc_count (by simpa using hn) hu ha, cyc_count (by simpa using hn) hu hb]
  split <;> split <;> omega
theorem seqOf_count : ∀ {L : List (ByteArray × List TP)}, (L.map Prod.fst).Nodup → ∀ {k : ByteArray} {q : List TP}, (k, q) ∈ L → ((seqOf L).map Prod.fst).count k = q.length
  | [], _, _, _, h => by cases h
  | e :: L, hn, k, q, h => by
    have hn' := List.nodup_cons.1 (show (e.1 :: L.map Prod.fst).Nodup from hn)
    have h1 : (seqOf (e :: L)).map Prod.fst = List.replicate e.2.length e.1 ++ (seqOf L).map Prod.fst := by
      unfold seqOf
      rw [List.flatMap_cons, List.map_append, List.map_map]
      congr 1
      rw [show ((fun a : ByteArray × ByteArray × Int => a.1) ∘ fun x : TP => (e.1, x.1, x.2)) = fun _ => e.1 from rfl, List.map_const']
    have h0 : ∀ k, k ∉ L.map Prod.fst → ((seqOf L).map Prod.fst).count k = 0 := by
      intro k hk
      refine List.count_eq_zero.2 (fun hm => hk ?_)
      obtain ⟨⟨a, t, p⟩, hx, rfl⟩ := List.mem_map.1 hm
      exact (mem_seqOf hx).1
    rw [h1, List.count_append, List.count_replicate]
    rcases List.mem_cons.1 h with rfl | h
    · rw [h0 _ hn'.1]
      simp
    · have hne : ¬ e.1 = k := fun he => hn'.1 (by rw [he]; exact List.mem_map.2 ⟨(k, q), h, rfl⟩)
      rw [seqOf_count hn'.2 h]
      simp [hne]
theorem sticky_spread {ms : List MV} {L : List (ByteArray × List TP)} (hp : (L.map Prod.fst).Perm ((memList ms).map Prod.fst)) (hi : (ms.map MV.id).Nodup) (he : Even L) : Spread 1 ms (seqOf L) := by
  intro m hm m' hm'
  rw [memList_ids] at hp
  have hn : (L.map Prod.fst).Nodup := hp.nodup_iff.2 hi
  obtain ⟨q, hq⟩ := mem_keys (hp.mem_iff.2 (List.mem_map.2 ⟨m, hm, rfl⟩))
  obtain ⟨q', hq'⟩ := mem_keys (hp.mem_iff.2 (List.mem_map.2 ⟨m', hm', rfl⟩))
  rw [seqOf_count hn hq, seqOf_count hn hq']
  exact he _ hq _ hq'
theorem sticky_mem {ms : List MV} {ts : List Sh} {L : List (ByteArray × List TP)} (hp : (L.map Prod.fst).Perm ((memList ms).map Prod.fst)) (hg : (given L).Perm (pairsOf (topList ts))) (ha : AllAll ms ts) {x : ByteArray × ByteArray × Int} (h : x ∈ seqOf L) : ∃ m ∈ ms, m.id = x.1 ∧ x.2.1 ∈ m.tops := by
  obtain ⟨k, t, p⟩ := x
  obtain ⟨h1, h2⟩ := mem_seqOf h
  rw [memList_ids] at hp
  obtain ⟨m, hm, e⟩ := List.mem_map.1 (hp.mem_iff.1 h1)
  obtain ⟨y, hy, hy2⟩ := List.mem_flatMap.1 (hg.mem_iff.1 h2)
  obtain ⟨q, _, hq⟩ := List.mem_map.1 hy2
  obtain ⟨s, hs, rfl⟩ := List.mem_map.1 hy
  have e2 : s.top = t := congrArg Prod.fst hq
  exact ⟨m, hm, e, by rw [← e2]; exact ha s hs m hm⟩
theorem topicSeq_count {ids : List ByteArray} (hn : ids.Nodup) (t : ByteArray) (ps : List Int) {k : ByteArray} (hk : k ∈ ids) : ps.length / ids.length ≤ ((topicSeq ids t ps).map Prod.fst).count k ∧ ((topicSeq ids t ps).map Prod.fst).count k ≤ ps.length / ids.length + 1 := by
  obtain ⟨a, ha, rfl⟩ := List.mem_iff_getElem.1 hk
  have h1 : ((topicSeq ids t ps).map Prod.fst).count ids[a] = (rpart ps ids.length a).length := by
    have h2 : ∀ n, n ≤ ids.length → (((List.range n).flatMap fun k => (rpart ps ids.length k).map fun p => (ids.getD k default, t, p)).map Prod.fst).count ids[a] = if a < n then (rpart ps ids.length a).length else 0 := by
      intro n
      induction n with
      | zero => intro _; simp
      | succ n ih =>
        intro hle
        have hlt : n < ids.length := hle
        rw [List.range_succ, List.flatMap_append, List.map_append, List.count_append, ih (by omega)]
        simp only [List.flatMap_cons, List.flatMap_nil, List.append_nil, List.map_map]
        rw [show ((fun a : ByteArray × ByteArray × Int => a.1) ∘ fun p => (ids.getD n default, t, p)) = fun _ => ids.getD n default from rfl, List.map_const', List.count_replicate, List.getD_eq_getElem?_getD, List.getElem?_eq_getElem hlt]
        by_cases he : n = a
        · subst he
          rw [if_neg (Nat.lt_irrefl _), if_pos (Nat.lt_succ_self _)]
          simp
        · have hne : ids[n] ≠ ids[a] := fun e => he (nodup_idx hn (List.getElem?_eq_getElem hlt) (by rw [List.getElem?_eq_getElem ha, e]))
          by_cases h3 : a < n
          · have h4 : a < n + 1 := by omega
            simp [hne, h3, h4]
          · have h4 : ¬ a < n + 1 := by omega
            simp [hne, h3, h4]
    have h3 := h2 ids.length (Nat.le_refl _)
    rw [if_pos ha] at h3
    exact h3
  rw [h1]
  have h4 : rhi ps.length ids.length a ≤ ps.length := by
    have h5 := rlo_all ps.length ids.length (by omega)
    have h6 : rhi ps.length ids.length a = rlo ps.length ids.length (a + 1) := by rw [rlo_succ]; unfold rhi; omega
    rw [h6]
    have h7 : rlo ps.length ids.length (a + 1) ≤ rlo ps.length ids.length ids.length := by
      unfold rlo
      have := Nat.mul_le_mul_right (ps.length / ids.length) (show a + 1 ≤ ids.length from ha)
      omega
    omega
  have h8 : (rpart ps ids.length a).length = rhi ps.length ids.length a - rlo ps.length ids.length a := by
    unfold rpart
    rw [List.length_drop, List.length_take]
    omega
  rw [h8]
  unfold rhi
  generalize ps.length / ids.length = q
  split <;> omega
theorem range_spread {ms : List MV} (hi : (ms.map MV.id).Nodup) : ∀ {ts : List Sh}, AllAll ms ts → Spread ts.length ms (rangeSeq (memList ms) (topList ts))
  | [], _ => by intro m _ m' _; simp [rangeSeq, topList]
  | s :: ts, h => by
    intro m hm m' hm'
    have ih := range_spread hi (ts := ts) (fun x hx => h x (.tail _ hx)) m hm m' hm'
    have h1 : rangeSeq (memList ms) (topList (s :: ts)) = topicSeq (srt (wantIds (memList ms) s.top)) s.top s.parts ++ rangeSeq (memList ms) (topList ts) := by simp [rangeSeq, topList]
    have hnd : (srt (wantIds (memList ms) s.top)).Nodup := srt_nodup ((show ((memList ms).map Prod.fst).Nodup by rw [memList_ids]; exact hi).sublist (wantIds_sub _ _))
    have hin : ∀ m ∈ ms, m.id ∈ srt (wantIds (memList ms) s.top) := fun m hm => (srt_perm _).mem_iff.2 (List.mem_map.2 ⟨(m.id, m.tops), List.mem_filter.2 ⟨List.mem_map.2 ⟨m, hm, rfl⟩, by simpa using h s (.head _) m hm⟩, rfl⟩)
    have h2 := topicSeq_count hnd s.top s.parts (hin m hm)
    have h3 := topicSeq_count hnd s.top s.parts (hin m' hm')
    rw [h1, List.map_append, List.count_append, List.count_append, List.length_cons]
    omega
end Go.Proofs.YtghgffhcdnmpnaaGreat
