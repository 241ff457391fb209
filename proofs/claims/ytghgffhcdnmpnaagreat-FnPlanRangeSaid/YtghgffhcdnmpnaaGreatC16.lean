/-
  A group's arguments in memory; what a plan reads as; helpers.
-/
import Derived.Test.YtghgffhcdnmpnaaGreatC15
namespace Go.Proofs.YtghgffhcdnmpnaaGreat
open Go.RowKit Go.Sort
/-- What a slice reads lies in the heap. -/
theorem SlAt.lt {w : World} {X : Nat → Prop} {s : Nat} {v : Value} {xs : List Value} (hs : 0 < s) (h : SlAt w X s v xs) : SlAt w (fun x => X x ∧ x < w.heap.size) s v xs := by
  obtain ⟨A, n, c, rfl, h1, h2, h3⟩ := h
  refine ⟨A, n, c, rfl, h1, fun a ha hn => ⟨h2 a ha hn, ?_⟩, h3⟩
  obtain ⟨b, off, hA, hc⟩ := h1.2.2 hn
  have hl : 0 < xs.length := by rw [h1.1]; exact Nat.mul_pos hn hs
  have := World.block_lt_of_cell? w _ (hc 0 _ (List.getElem?_eq_getElem hl))
  rw [hA] at ha
  rw [← Option.some.inj ha]
  exact this
theorem TmAt.mono {w : World} {X Y : Nat → Prop} {b : Nat} {l : List (ByteArray × List Int)} (h : TmAt w X b l) (hXY : ∀ x, X x → Y x) : TmAt w Y b l := by
  obtain ⟨h0, m, h1, h2, h3⟩ := h
  exact ⟨hXY _ h0, m, h1, h2, fun e he => (h3 e he).mono (fun x hx => ⟨hXY _ hx.1, hx.2⟩)⟩
theorem TmAt.lt {w : World} {X : Nat → Prop} {b : Nat} {l : List (ByteArray × List Int)} (h : TmAt w X b l) : TmAt w (fun x => x < w.heap.size) b l := by
  obtain ⟨h0, m, h1, h2, h3⟩ := h
  exact ⟨h1.lt, m, h1, h2, fun e he => ((h3 e he).lt (by decide)).mono (fun x hx => ⟨hx.2, hx.1.2⟩)⟩
theorem MmAt.lt {w : World} {X : Nat → Prop} {b : Nat} {l : List (ByteArray × List ByteArray)} (h : MmAt w X b l) : MmAt w (fun x => x < w.heap.size) b l := by
  obtain ⟨h0, m, h1, h2, h3⟩ := h
  refine ⟨h1.lt, m, h1, h2, fun e he => ?_⟩
  obtain ⟨ver, tv, gen, rp, h4, h5⟩ := h3 e he
  exact ⟨ver, tv, gen, rp, h4, (h5.lt (by decide)).mono (fun x hx => ⟨hx.2, hx.1.2⟩)⟩

/-- A plan, read out in order. -/
def canon (F : ByteArray → ByteArray → List Int) (ids T : List ByteArray) : List Sh := (srt ids).flatMap fun id => (srt (fullTops (F id) T)).map (mkSh id (F id))
theorem fullTops_perm {f : ByteArray → List Int} {K T : List ByteArray} (hK : K.Nodup) (hT : T.Nodup) (h1 : ∀ t, f t ≠ [] → t ∈ K) (h2 : ∀ t, f t ≠ [] → t ∈ T) : (fullTops f K).Perm (fullTops f T) := by
  refine (List.perm_ext_iff_of_nodup (hK.sublist List.filter_sublist) (hT.sublist List.filter_sublist)).2 (fun t => ?_)
  simp only [List.mem_filter, decide_eq_true_eq]
  exact ⟨fun h => ⟨h2 t h.2, h.2⟩, fun h => ⟨h1 t h.2, h.2⟩⟩
/-- A group's arguments: members and topics in memory that lies in X; what groupFits asks of them, as far as a plan needs it. -/
structure Grp (w : World) (X : Nat → Prop) (mv tv : Value) (ms : List MV) (ts : List Sh) : Prop where
  mems : MemsAt w X mv ms
  tops : ShsAt w X tv ts
  lt : ∀ x, X x → x < w.heap.size
  ids : (ms.map MV.id).Nodup
  six : ms.length ≤ 7
  one : 1 ≤ ms.length
  once : ∀ m ∈ ms, m.tops.Nodup ∧ m.dn = 0 ∧ m.on = 0 ∧ m.tops.length ≤ 1000000
  names : (ts.map Sh.top).Nodup
  twelve : ts.length ≤ 12
  few : ∀ s ∈ ts, s.parts.length ≤ 1000000
def memList (ms : List MV) : List (ByteArray × List ByteArray) := ms.map fun m => (m.id, m.tops)
def topList (ts : List Sh) : List (ByteArray × List Int) := ts.map fun s => (s.top, s.parts)
theorem tget_len {l : List (ByteArray × List Int)} (h : ∀ p ∈ l, p.2.length ≤ 1000000) (t : ByteArray) : (tget l t).length ≤ 1000000 := by
  induction l with
  | nil => simp [tget]
  | cons p l ih =>
    simp only [tget]
    split
    · exact h p (.head _)
    · exact ih (fun q hq => h q (.tail _ hq))
theorem tget_mem {l : List (ByteArray × List Int)} {t : ByteArray} (h : tget l t ≠ []) : t ∈ l.map Prod.fst := by
  induction l with
  | nil => simp [tget] at h
  | cons p l ih =>
    by_cases hp : p.1 = t
    · simp [hp]
    · simp only [tget, hp, if_false] at h
      exact List.mem_cons_of_mem _ (ih h)
theorem rangePlan_top {l : List (ByteArray × List ByteArray)} {tm : List (ByteArray × List Int)} {k t : ByteArray} (h : rangePlan l tm k t ≠ []) : t ∈ tm.map Prod.fst := by
  refine tget_mem (fun e => h ?_)
  unfold rangePlan rangeOf
  rw [e]
  split
  · exact List.eq_nil_of_length_eq_zero (Nat.le_zero.1 (rpart_len [] _ _))
  · rfl
theorem rangePlan_len {l : List (ByteArray × List ByteArray)} {tm : List (ByteArray × List Int)} (h : ∀ p ∈ tm, p.2.length ≤ 1000000) (k t : ByteArray) : (rangePlan l tm k t).length ≤ 1000000 := by
  unfold rangePlan rangeOf
  split
  · exact Nat.le_trans (rpart_len _ _ _) (tget_len h t)
  · simp
/-- A member's part of a plan, read out. -/
theorem shares_plan {w : World} {S : List Nat} {b : Nat} {F : ByteArray → ByteArray → List Int} {ks : List ByteArray} {I : ByteArray → Nat} {M : ByteArray → List (ByteArray × Value)} (hP : PlanWith w S b F ks I M) (id : ByteArray) (T : List ByteArray) (hT : T.Nodup) (hT12 : T.length ≤ 12) (hFT : ∀ t, F id t ≠ [] → t ∈ T) (hF : ∀ t, (F id t).length ≤ 1000000) :
    Calls Tryz.prog 45 #[.string id, (mget (ks.map fun k => (k, Value.map (some (I k)))) id).getD (.map none)] w fun e w' => ∃ v L, e = .returned v ∧ L.map Prod.fst = (srt (fullTops (F id) T)).map (mkSh id (F id)) ∧ w'.ownsRow w.heap.size 53 3 v L.length (shFlat L) ∧ (∀ p ∈ L, w'.ownsRow w.heap.size 21 1 p.2 p.1.parts.length (ints p.1.parts)) ∧ Kept [] w w' := by
  by_cases hk : id ∈ ks
  · rw [mget_outer I hk]
    have hM := hP.inner id hk
    have hp : (fullTops (F id) ((M id).map Prod.fst)).Perm (fullTops (F id) T) := fullTops_perm hM.nodup hT (fun t ht => by
      rcases Classical.em (t ∈ (M id).map Prod.fst) with h | h
      · exact h
      · exact absurd (hP.nil id t (fun _ => h)) ht) hFT
    have hlen : (fullTops (F id) ((M id).map Prod.fst)).length ≤ 12 := by
      rw [hp.length_eq]
      exact Nat.le_trans (List.length_filter_le _ _) hT12
    have := shares_map id (I id) (F id) (M id) w hM (fun t u hu => hP.rows id hk t u hu) hlen hF
    rw [srt_of_perm hp] at this
    exact this
  · rw [mget_outer_none I hk]
    refine (shares_nil id w).mono ?_
    rintro e w' ⟨rfl, hkk⟩
    refine ⟨_, [], rfl, ?_, World.ownsRow_nil _ _ _ _, by simp, hkk⟩
    have h0 : fullTops (F id) T = [] := by
      refine List.filter_eq_nil_iff.2 (fun t _ => ?_)
      simp [hP.nil id t (fun h => absurd h hk)]
    rw [h0]
    simp [srt]
end Go.Proofs.YtghgffhcdnmpnaaGreat
