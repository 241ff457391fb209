/-
  The strategy by ranges, made anew; safe of a closure that ends.
-/
import Derived.Test.YtghgffhcdnmpnaaGreatZC11
import Derived.Recover
import Derived.Defers
namespace Go.Proofs.YtghgffhcdnmpnaaGreat
open Go.RowKit Go.Sort
/-- What stands in a strategy by ranges. -/
def rangeObj : Obj := .cells #[.func (.func 72) #[] #[], .string ⟨#[114, 97, 110, 103, 101]⟩] 131
theorem newRange_any (w : World) : Calls Tryz.prog 61 #[] w fun e w' => e = .returned (.iface 125 (.pointer (some ⟨w.heap.size, 0, none⟩))) ∧ w' = w.alloc rangeObj := by
  go_enter Tryz.func61, Tryz.ntmps61
  go_wp2
  go_ret
  exact ⟨rfl, rfl⟩
theorem strategy0 (w : World) : Calls Tryz.prog 42 #[.int .i64 0] w fun e w' => e = .returned (.iface 125 (.pointer (some ⟨w.heap.size, 0, none⟩))) ∧ w' = w.alloc rangeObj := by
  have H := Lib.hid (newRange_any w)
  go_enter Tryz.func42, Tryz.ntmps42
  go_wp2_with (with_reducible refine H.out.mono ?_; rintro e w1 ⟨rfl, rfl⟩)
  go_ret
  exact ⟨rfl, rfl⟩
theorem safe_deferred (p : Addr) (x : Value) (w : World) (hc : w.cell? p = some x) (hz : w.frozen? p = false) :
    CallsD Tryz.prog 52 #[.pointer (some p)] .returning w fun e u' w' =>
      e = .returned (.tuple #[]) ∧ u' = .returning ∧ w' = w.setCell p (.bool true) := by
  refine callsD_of_wpS Tryz.func52 rfl fun c₀ cs hu => ?_
  apply wpS_region
  simp [wpOpsS, go_sem, recoverD, hu, Tryz.ntmps52, hc, hz]
  cases c₀
  simp_all [bodyPostS, results, Tryz.results52]
set_option maxRecDepth 100000 in
set_option maxHeartbeats 400000 in
/-- safe of a closure that ends. -/
theorem safe_any (G : FuncId) (caps : Array Value) (w : World) (R : World → Prop)
    (hcf : ∀ W, (callFunc G caps).run Tryz.prog W = .ok (.enter G caps) W)
    (hG : Calls Tryz.prog G caps (w.alloc (.cells #[.bool false] 4)) fun e W' => e = .returned (.tuple #[]) ∧ R W')
    (hR : ∀ W', R W' → W'.heap[w.heap.size]? = some (.cells #[.bool false] 4 (0, 0))) :
    Calls Tryz.prog 28 #[.func (.func G) #[] caps] w fun e w' => e = .returned (.bool true) ∧ ∃ W', R W' ∧ Kept [w.heap.size] W' w' := by
  have hmf : ∀ (fn : Fn) (first cap : Array Value) (w : World), (Instr.makeFunc fn first cap).run Tryz.prog w = .ok (.func fn first cap) w := fun _ _ _ _ => rfl
  have HG := Lib.hid hG
  have HR := Lib.hid hR
  clear hG hR
  go_enter_defers Tryz.func28, Tryz.ntmps28
  go_wp2_with (with_reducible refine HG.out.mono ?_; rintro e w1 ⟨rfl, h1⟩; have hh := HR.out w1 h1; have hc1 : w1.cell? ⟨w.heap.size, 0, none⟩ = some (.bool false) := (by simp [World.cell?, hh]); have hf1 : w1.frozen? ⟨w.heap.size, 0, none⟩ = false := (by simp [World.frozen?, hh]); have H1 := Lib.hid h1; clear h1)
  refine leaves_cons (f := 52) (args := #[.pointer (some ⟨w.heap.size, 0, none⟩)]) (by simp) (by simp [go_sem]) ?_
  have hh2 := heap_setCell_same w1 w.heap.size 0 _ 4 (.bool true) hh
  have hcc : (w1.setCell ⟨w.heap.size, 0, none⟩ (.bool true)).cell? ⟨w.heap.size, 0, none⟩ = some (.bool true) := by simp [World.cell?, hh2]
  have hff : (w1.setCell ⟨w.heap.size, 0, none⟩ (.bool true)).frozen? ⟨w.heap.size, 0, none⟩ = false := by simp [World.frozen?, hh2]
  refine (safe_deferred ⟨w.heap.size, 0, none⟩ (.bool true) _ hcc hff).mono ?_
  rintro e u' w'' ⟨rfl, rfl, rfl⟩
  have hh3 := heap_setCell_same (w1.setCell ⟨w.heap.size, 0, none⟩ (.bool true)) w.heap.size 0 _ 4 (.bool true) hh2
  have hc3 : ((w1.setCell ⟨w.heap.size, 0, none⟩ (.bool true)).setCell ⟨w.heap.size, 0, none⟩ (.bool true)).cell? ⟨w.heap.size, 0, none⟩ = some (.bool true) := by simp [World.cell?, hh3]
  simp [Leaves, settle, results, Tryz.results28, go_sem, hc3]
  exact ⟨w1, H1.out, ((Kept.refl _ _).setCell (.inl (by simp)) _).setCell (.inl (by simp)) _⟩
end Go.Proofs.YtghgffhcdnmpnaaGreat
/-
  A group's arguments in memory; what a plan reads as; helpers.
-/
namespace Go.Proofs.YtghgffhcdnmpnaaGreat
open Go.RowKit Go.Sort
/-- What a slice reads lies in the heap. -/
theorem SlAt.lt {w : World} {X : Nat → Prop} {s : Nat} {v : Value} {xs : List Value} (hs : 0 < s) (h : SlAt w X s v xs) : SlAt w (fun x => X x ∧ x < w.heap.size) s v xs := by
  obtain ⟨A, n, c, rfl, h1, h2, h3⟩ := h
  refine ⟨A, n, c, rfl, h1, fun a ha hn => ⟨h2 a ha hn, ?_⟩, h3⟩
  obtain ⟨b, off, hA, hc⟩ := h1.2.2 hn
  have hl : 0 < xs.length := by rw [h1.1]; exact Nat.mul_pos hn hs
  have := World.block_lt_of_cell? w _ (hc 0 _ (List.getElem?_eq_getElem hl))
  rw [hA] at ha
  rw [← Option.some.inj ha]
  exact this
theorem TmAt.mono {w : World} {X Y : Nat → Prop} {b : Nat} {l : List (ByteArray × List Int)} (h : TmAt w X b l) (hXY : ∀ x, X x → Y x) : TmAt w Y b l := by
  obtain ⟨h0, m, h1, h2, h3⟩ := h
  exact ⟨hXY _ h0, m, h1, h2, fun e he => (h3 e he).mono (fun x hx => ⟨hXY _ hx.1, hx.2⟩)⟩
theorem TmAt.lt {w : World} {X : Nat → Prop} {b : Nat} {l : List (ByteArray × List Int)} (h : TmAt w X b l) : TmAt w (fun x => x < w.heap.size) b l := by
  obtain ⟨h0, m, h1, h2, h3⟩ := h
  exact ⟨h1.lt, m, h1, h2, fun e he => ((h3 e he).lt (by decide)).mono (fun x hx => ⟨hx.2, hx.1.2⟩)⟩
theorem MmAt.lt {w : World} {X : Nat → Prop} {b : Nat} {l : List (ByteArray × List ByteArray)} (h : MmAt w X b l) : MmAt w (fun x => x < w.heap.size) b l := by
  obtain ⟨h0, m, h1, h2, h3⟩ := h
  refine ⟨h1.lt, m, h1, h2, fun e he => ?_⟩
  obtain ⟨ver, tv, gen, rp, h4, h5⟩ := h3 e he
  exact ⟨ver, tv, gen, rp, h4, (h5.lt (by decide)).mono (fun x hx => ⟨hx.2, hx.1.2⟩)⟩

/-- A plan, read out in order. -/
def canon (F : ByteArray → ByteArray → List Int) (ids T : List ByteArray) : List Sh := (srt ids).flatMap fun id => (srt (fullTops (F id) T)).map (mkSh id (F id))
theorem fullTops_perm {f : ByteArray → List Int} {K T : List ByteArray} (hK : K.Nodup) (hT : T.Nodup) (h1 : ∀ t, f t ≠ [] → t ∈ K) (h2 : ∀ t, f t ≠ [] → t ∈ T) : (fullTops f K).Perm (fullTops f T) := by
  refine (List.perm_ext_iff_of_nodup (hK.sublist List.filter_sublist) (hT.sublist List.filter_sublist)).2 (fun t => ?_)
  simp only [List.mem_filter, decide_eq_true_eq]
  exact ⟨fun h => ⟨h2 t h.2, h.2⟩, fun h => ⟨h1 t h.2, h.2⟩⟩
/-- A group's arguments: members and topics in memory that lies in X; what groupFits asks of them, as far as a plan needs it. -/
structure Grp (w : World) (X : Nat → Prop) (mv tv : Value) (ms : List MV) (ts : List Sh) : Prop where
  mems : MemsAt w X mv ms
  tops : ShsAt w X tv ts
  lt : ∀ x, X x → x < w.heap.size
  ids : (ms.map MV.id).Nodup
  six : ms.length ≤ 7
  one : 1 ≤ ms.length
  once : ∀ m ∈ ms, m.tops.Nodup ∧ m.dn = 0 ∧ m.on = 0 ∧ m.tops.length ≤ 1000000
  names : (ts.map Sh.top).Nodup
  twelve : ts.length ≤ 12
  few : ∀ s ∈ ts, s.parts.length ≤ 1000000
def memList (ms : List MV) : List (ByteArray × List ByteArray) := ms.map fun m => (m.id, m.tops)
def topList (ts : List Sh) : List (ByteArray × List Int) := ts.map fun s => (s.top, s.parts)
theorem tget_len {l : List (ByteArray × List Int)} (h : ∀ p ∈ l, p.2.length ≤ 1000000) (t : ByteArray) : (tget l t).length ≤ 1000000 := by
  induction l with
  | nil => simp [tget]
  | cons p l ih =>
    simp only [tget]
    split
    · exact h p (.head _)
    · exact ih (fun q hq => h q (.tail _ hq))
theorem tget_mem {l : List (ByteArray × List Int)} {t : ByteArray} (h : tget l t ≠ []) : t ∈ l.map Prod.fst := by
  induction l with
  | nil => simp [tget] at h
  | cons p l ih =>
    by_cases hp : p.1 = t
    · simp [hp]
    · simp only [tget, hp, if_false] at h
      exact List.mem_cons_of_mem _ (ih h)
theorem rangePlan_top {l : List (ByteArray × List ByteArray)} {tm : List (ByteArray × List Int)} {k t : ByteArray} (h : rangePlan l tm k t ≠ []) : t ∈ tm.map Prod.fst := by
  refine tget_mem (fun e => h ?_)
  unfold rangePlan rangeOf
  rw [e]
  split
  · exact List.eq_nil_of_length_eq_zero (Nat.le_zero.1 (rpart_len [] _ _))
  · rfl
theorem rangePlan_len {l : List (ByteArray × List ByteArray)} {tm : List (ByteArray × List Int)} (h : ∀ p ∈ tm, p.2.length ≤ 1000000) (k t : ByteArray) : (rangePlan l tm k t).length ≤ 1000000 := by
  unfold rangePlan rangeOf
  split
  · exact Nat.le_trans (rpart_len _ _ _) (tget_len h t)
  · simp
/-- A member's part of a plan, read out. -/
theorem shares_plan {w : World} {S : List Nat} {b : Nat} {F : ByteArray → ByteArray → List Int} {ks : List ByteArray} {I : ByteArray → Nat} {M : ByteArray → List (ByteArray × Value)} (hP : PlanWith w S b F ks I M) (id : ByteArray) (T : List ByteArray) (hT : T.Nodup) (hT12 : T.length ≤ 12) (hFT : ∀ t, F id t ≠ [] → t ∈ T) (hF : ∀ t, (F id t).length ≤ 1000000) :
    Calls Tryz.prog 45 #[.string id, (mget (ks.map fun k => (k, Value.map (some (I k)))) id).getD (.map none)] w fun e w' => ∃ v L, e = .returned v ∧ L.map Prod.fst = (srt (fullTops (F id) T)).map (mkSh id (F id)) ∧ w'.ownsRow w.heap.size 53 3 v L.length (shFlat L) ∧ (∀ p ∈ L, w'.ownsRow w.heap.size 21 1 p.2 p.1.parts.length (ints p.1.parts)) ∧ Kept [] w w' := by
  by_cases hk : id ∈ ks
  · rw [mget_outer I hk]
    have hM := hP.inner id hk
    have hp : (fullTops (F id) ((M id).map Prod.fst)).Perm (fullTops (F id) T) := fullTops_perm hM.nodup hT (fun t ht => by
      rcases Classical.em (t ∈ (M id).map Prod.fst) with h | h
      · exact h
      · exact absurd (hP.nil id t (fun _ => h)) ht) hFT
    have hlen : (fullTops (F id) ((M id).map Prod.fst)).length ≤ 12 := by
      rw [hp.length_eq]
      exact Nat.le_trans (List.length_filter_le _ _) hT12
    have := shares_map id (I id) (F id) (M id) w hM (fun t u hu => hP.rows id hk t u hu) hlen hF
    rw [srt_of_perm hp] at this
    exact this
  · rw [mget_outer_none I hk]
    refine (shares_nil id w).mono ?_
    rintro e w' ⟨rfl, hkk⟩
    refine ⟨_, [], rfl, ?_, World.ownsRow_nil _ _ _ _, by simp, hkk⟩
    have h0 : fullTops (F id) T = [] := by
      refine List.filter_eq_nil_iff.2 (fun t _ => ?_)
      simp [hP.nil id t (fun h => absurd h hk)]
    rw [h0]
    simp [srt]
end Go.Proofs.YtghgffhcdnmpnaaGreat
/-
  Plans as lists in order: a partition put into one, what a row of gifts gives, the gifts by ranges and by round robin. In plain Lean. Conditions: those of each lemma.
-/
namespace Go.Proofs.YtghgffhcdnmpnaaGreat
open Go.RowKit Go.Sort
def slt (a b : ByteArray) : Bool := decide (a.data.toList < b.data.toList)
theorem slt_irrefl (a : ByteArray) : slt a a = false := by simp [slt]
theorem slt_trans {a b c : ByteArray} (h : slt a b = true) (k : slt b c = true) : slt a c = true := by
  simp only [slt, decide_eq_true_eq] at *
  exact List.lt_trans h k
theorem slt_of_sle {a b : ByteArray} (h : sle a b = true) (hne : a ≠ b) : slt a b = true := by
  simp only [slt, sle, decide_eq_true_eq] at *
  rcases List.le_iff_lt_or_eq.1 h with h | h
  · exact h
  · exact absurd (bytes_ext h) hne
theorem slt_total {a b : ByteArray} (h : slt a b = false) (hne : a ≠ b) : slt b a = true := by
  simp only [slt, decide_eq_false_iff_not, decide_eq_true_eq] at *
  rcases List.le_iff_lt_or_eq.1 (List.not_lt.1 h) with h | h
  · exact h
  · exact absurd (bytes_ext h).symm hne

def klt (a b : Sh) : Bool := slt a.mem b.mem || (decide (a.mem = b.mem) && slt a.top b.top)
theorem klt_irrefl (a : Sh) : klt a a = false := by simp [klt, slt_irrefl]
theorem klt_trans {a b c : Sh} (h : klt a b = true) (k : klt b c = true) : klt a c = true := by
  simp only [klt, Bool.or_eq_true, Bool.and_eq_true, decide_eq_true_eq] at *
  rcases h with h | ⟨h1, h2⟩ <;> rcases k with k | ⟨k1, k2⟩
  · exact .inl (slt_trans h k)
  · exact .inl (k1 ▸ h)
  · exact .inl (h1 ▸ k)
  · exact .inr ⟨h1.trans k1, slt_trans h2 k2⟩
/-- Two lists in strict order with the same members are one. -/
theorem sorted_ext {a b : List Sh} (ha : a.Pairwise (fun x y => klt x y = true)) (hb : b.Pairwise (fun x y => klt x y = true)) (h : ∀ x, x ∈ a ↔ x ∈ b) : a = b := by
  have hn : ∀ {l : List Sh}, l.Pairwise (fun x y => klt x y = true) → l.Nodup := fun hl => hl.imp (fun {x y} hxy e => by subst e; rw [klt_irrefl] at hxy; cases hxy)
  refine List.Perm.eq_of_pairwise (le := fun x y => klt x y = true) ?_ ha hb ((List.perm_ext_iff_of_nodup (hn ha) (hn hb)).2 h)
  intro x y _ _ h1 h2
  have := klt_trans h1 h2
  rw [klt_irrefl] at this
  cases this
/-- A partition is put into a plan in order. -/
def shareP : List Sh → ByteArray → ByteArray → Int → List Sh
  | [], m, t, p => [⟨m, t, [p]⟩]
  | x :: r, m, t, p =>
    if x.mem = m ∧ x.top = t then ⟨m, t, x.parts ++ [p]⟩ :: r
    else if slt m x.mem = true ∨ (x.mem = m ∧ slt t x.top = true) then ⟨m, t, [p]⟩ :: x :: r
    else x :: shareP r m t p
/-- A list in order that holds just what a plan gives. -/
structure Reads (F : ByteArray → ByteArray → List Int) (l : List Sh) : Prop where
  sorted : l.Pairwise (fun x y => klt x y = true)
  mem : ∀ x, x ∈ l ↔ x.parts = F x.mem x.top ∧ x.parts ≠ []
theorem Reads.unique {F : ByteArray → ByteArray → List Int} {a b : List Sh} (ha : Reads F a) (hb : Reads F b) : a = b :=
  sorted_ext ha.sorted hb.sorted (fun x => (ha.mem x).trans (hb.mem x).symm)
theorem Reads.nil : Reads (fun _ _ => []) [] := ⟨.nil, fun x => by simp⟩
theorem shareP_mem (m t : ByteArray) (p : Int) : ∀ (l : List Sh), l.Pairwise (fun x y => klt x y = true) →
    ∀ y, y ∈ shareP l m t p ↔ (y.mem = m ∧ y.top = t ∧ ((∃ x ∈ l, x.mem = m ∧ x.top = t ∧ y.parts = x.parts ++ [p]) ∨ ((∀ x ∈ l, ¬ (x.mem = m ∧ x.top = t)) ∧ y.parts = [p]))) ∨ (¬ (y.mem = m ∧ y.top = t) ∧ y ∈ l) := by
  intro l
  induction l with
  | nil =>
    intro _ y
    simp only [shareP, List.mem_singleton, List.not_mem_nil, false_and, exists_false, false_or, and_false, or_false]
    constructor
    · rintro rfl; simp
    · rintro ⟨h1, h2, _, h3⟩
      cases y; simp_all
  | cons x r ih =>
    intro hp y
    have hp' := List.pairwise_cons.1 hp
    have ih := ih hp'.2
    unfold shareP
    by_cases h1 : x.mem = m ∧ x.top = t
    · rw [if_pos h1]
      obtain ⟨h1, h2⟩ := h1
      have hno : ∀ z ∈ r, ¬ (z.mem = m ∧ z.top = t) := by
        rintro z hz ⟨e1, e2⟩
        have := hp'.1 z hz
        simp [klt, h1, h2, e1, e2, slt_irrefl] at this
      constructor
      · intro hy
        rcases List.mem_cons.1 hy with rfl | hy
        · exact .inl ⟨rfl, rfl, .inl ⟨x, .head _, h1, h2, rfl⟩⟩
        · exact .inr ⟨hno y hy, .tail _ hy⟩
      · rintro (⟨e1, e2, (⟨z, hz, e3, e4, e5⟩ | ⟨hz, _⟩)⟩ | ⟨hn, hy⟩)
        · have : z = x := by
            rcases List.mem_cons.1 hz with rfl | hz
            · rfl
            · exact absurd ⟨e3, e4⟩ (hno z hz)
          subst this
          cases y; simp_all
        · exact absurd ⟨h1, h2⟩ (hz x (.head _))
        · rcases List.mem_cons.1 hy with rfl | hy
          · exact absurd ⟨h1, h2⟩ hn
          · exact .tail _ hy
    · rw [if_neg h1]
      by_cases h2 : slt m x.mem = true ∨ (x.mem = m ∧ slt t x.top = true)
      · rw [if_pos h2]
        have hkx : ∀ z : Sh, z.mem = m → z.top = t → klt z x = true := by
          intro z e1 e2
          simp only [klt, Bool.or_eq_true, Bool.and_eq_true, decide_eq_true_eq, e1, e2]
          exact h2.imp id (fun h => ⟨h.1.symm, h.2⟩)
        have hno : ∀ z ∈ x :: r, ¬ (z.mem = m ∧ z.top = t) := by
          rintro z hz ⟨e1, e2⟩
          rcases List.mem_cons.1 hz with rfl | hz
          · exact h1 ⟨e1, e2⟩
          · have := klt_trans (hkx z e1 e2) (hp'.1 z hz)
            rw [klt_irrefl] at this
            cases this
        constructor
        · intro hy
          rcases List.mem_cons.1 hy with rfl | hy
          · exact .inl ⟨rfl, rfl, .inr ⟨hno, rfl⟩⟩
          · exact .inr ⟨hno y hy, hy⟩
        · rintro (⟨e1, e2, (⟨z, hz, e3, e4, e5⟩ | ⟨hz, e5⟩)⟩ | ⟨hn, hy⟩)
          · exact absurd ⟨e3, e4⟩ (hno z hz)
          · cases y; simp_all
          · exact .tail _ hy
      · rw [if_neg h2]
        constructor
        · intro hy
          rcases List.mem_cons.1 hy with rfl | hy
          · exact .inr ⟨h1, .head _⟩
          · rcases (ih y).1 hy with ⟨e1, e2, (⟨z, hz, e3, e4, e5⟩ | ⟨hz, e5⟩)⟩ | ⟨hn, hy⟩
            · exact .inl ⟨e1, e2, .inl ⟨z, .tail _ hz, e3, e4, e5⟩⟩
            · exact .inl ⟨e1, e2, .inr ⟨fun z hz' => (List.mem_cons.1 hz').elim (fun e => e ▸ h1) (hz z), e5⟩⟩
            · exact .inr ⟨hn, .tail _ hy⟩
        · rintro (⟨e1, e2, (⟨z, hz, e3, e4, e5⟩ | ⟨hz, e5⟩)⟩ | ⟨hn, hy⟩)
          · rcases List.mem_cons.1 hz with rfl | hz
            · exact absurd ⟨e3, e4⟩ h1
            · exact .tail _ ((ih y).2 (.inl ⟨e1, e2, .inl ⟨z, hz, e3, e4, e5⟩⟩))
          · exact .tail _ ((ih y).2 (.inl ⟨e1, e2, .inr ⟨fun z hz' => hz z (.tail _ hz'), e5⟩⟩))
          · rcases List.mem_cons.1 hy with rfl | hy
            · exact .head _
            · exact .tail _ ((ih y).2 (.inr ⟨hn, hy⟩))
theorem shareP_sorted (m t : ByteArray) (p : Int) : ∀ (l : List Sh), l.Pairwise (fun x y => klt x y = true) → (shareP l m t p).Pairwise (fun x y => klt x y = true) := by
  intro l
  induction l with
  | nil => intro _; simp [shareP]
  | cons x r ih =>
    intro hp
    have hp' := List.pairwise_cons.1 hp
    unfold shareP
    by_cases h1 : x.mem = m ∧ x.top = t
    · rw [if_pos h1]
      refine List.pairwise_cons.2 ⟨fun y hy => ?_, hp'.2⟩
      have := hp'.1 y hy
      simpa [klt, h1.1, h1.2] using this
    · rw [if_neg h1]
      by_cases h2 : slt m x.mem = true ∨ (x.mem = m ∧ slt t x.top = true)
      · rw [if_pos h2]
        have hkx : klt ⟨m, t, [p]⟩ x = true := by
          simp only [klt, Bool.or_eq_true, Bool.and_eq_true, decide_eq_true_eq]
          exact h2.imp id (fun h => ⟨h.1.symm, h.2⟩)
        refine List.pairwise_cons.2 ⟨fun y hy => ?_, hp⟩
        rcases List.mem_cons.1 hy with rfl | hy
        · exact hkx
        · exact klt_trans hkx (hp'.1 y hy)
      · rw [if_neg h2]
        refine List.pairwise_cons.2 ⟨fun y hy => ?_, ih hp'.2⟩
        rcases (shareP_mem m t p r hp'.2 y).1 hy with ⟨e1, e2, _⟩ | ⟨_, hy⟩
        · simp only [klt, Bool.or_eq_true, Bool.and_eq_true, decide_eq_true_eq, e1, e2]
          by_cases hm : x.mem = m
          · refine .inr ⟨hm, ?_⟩
            refine slt_total (b := x.top) (a := t) ?_ (fun e => h1 ⟨hm, e.symm⟩)
            cases h : slt t x.top with
            | false => rfl
            | true => exact absurd (.inr ⟨hm, h⟩) h2
          · refine .inl (slt_total (b := x.mem) (a := m) ?_ (fun e => hm e.symm))
            cases h : slt m x.mem with
            | false => rfl
            | true => exact absurd (.inl h) h2
        · exact hp'.1 y hy
theorem Reads.share {F : ByteArray → ByteArray → List Int} {l : List Sh} (h : Reads F l) (m t : ByteArray) (p : Int) : Reads (upd2 F m t (F m t ++ [p])) (shareP l m t p) := by
  refine ⟨shareP_sorted m t p l h.sorted, fun y => ?_⟩
  rw [shareP_mem m t p l h.sorted y]
  constructor
  · rintro (⟨e1, e2, (⟨z, hz, e3, e4, e5⟩ | ⟨hz, e5⟩)⟩ | ⟨hn, hy⟩)
    · have := (h.mem z).1 hz
      rw [e3, e4] at this
      simp [upd2, e1, e2, e5, this.1]
    · have : F m t = [] := by
        rcases Classical.em (F m t = []) with h' | h'
        · exact h'
        · exact absurd ⟨rfl, rfl⟩ (hz ⟨m, t, F m t⟩ ((h.mem _).2 ⟨rfl, h'⟩))
      simp [upd2, e1, e2, e5, this]
    · have := (h.mem y).1 hy
      simpa [upd2, hn] using this
  · intro hy
    by_cases hk : y.mem = m ∧ y.top = t
    · obtain ⟨e1, e2⟩ := hk
      refine .inl ⟨e1, e2, ?_⟩
      simp only [upd2, e1, e2, and_self, if_true] at hy
      by_cases hF : F m t = []
      · refine .inr ⟨?_, by simpa [hF] using hy.1⟩
        rintro z hz ⟨e3, e4⟩
        have := (h.mem z).1 hz
        rw [e3, e4, hF] at this
        exact this.2 this.1
      · exact .inl ⟨⟨m, t, F m t⟩, (h.mem _).2 ⟨rfl, hF⟩, rfl, rfl, hy.1⟩
    · refine .inr ⟨hk, (h.mem y).2 ?_⟩
      simpa [upd2, hk] using hy
/-- What a row of gifts gives to each. -/
def gives (s : List (ByteArray × ByteArray × Int)) (m t : ByteArray) : List Int := (s.filter (fun x => decide (x.1 = m ∧ x.2.1 = t))).map (·.2.2)
theorem gives_snoc (s : List (ByteArray × ByteArray × Int)) (m t : ByteArray) (p : Int) : gives (s ++ [(m, t, p)]) = upd2 (gives s) m t (gives s m t ++ [p]) := by
  funext x y
  by_cases h : m = x ∧ t = y
  · obtain ⟨rfl, rfl⟩ := h; simp [gives, upd2, List.filter_append]
  · have h' : ¬ (x = m ∧ y = t) := fun e => h ⟨e.1.symm, e.2.symm⟩
    simp [gives, upd2, List.filter_append, h, h']
def sharesP (s : List (ByteArray × ByteArray × Int)) : List Sh := s.foldl (fun l x => shareP l x.1 x.2.1 x.2.2) []
theorem sharesP_snoc (s : List (ByteArray × ByteArray × Int)) (x : ByteArray × ByteArray × Int) : sharesP (s ++ [x]) = shareP (sharesP s) x.1 x.2.1 x.2.2 := by simp [sharesP]
theorem sharesP_reads (s : List (ByteArray × ByteArray × Int)) : Reads (gives s) (sharesP s) := by
  rw [← List.reverse_reverse s]
  induction s.reverse with
  | nil => exact Reads.nil
  | cons x r ih =>
    obtain ⟨m, t, p⟩ := x
    rw [List.reverse_cons, sharesP_snoc, gives_snoc]
    exact ih.share m t p

theorem canon_reads {F : ByteArray → ByteArray → List Int} {ids T : List ByteArray} (hi : ids.Nodup) (hT : T.Nodup) (hF : ∀ m t, F m t ≠ [] → m ∈ ids ∧ t ∈ T) : Reads F (canon F ids T) := by
  have hstrict : ∀ {l : List ByteArray}, l.Nodup → (srt l).Pairwise (fun a b => slt a b = true) := by
    intro l hl
    have h1 := srt_sorted l
    have h2 := srt_nodup hl
    exact (h1.and h2).imp (fun {a b} h => slt_of_sle h.1 h.2)
  constructor
  · unfold canon
    rw [List.pairwise_flatMap]
    refine ⟨fun id _ => ?_, ?_⟩
    · rw [List.pairwise_map]
      refine (hstrict (hT.sublist List.filter_sublist)).imp ?_
      intro a b h
      simp [klt, mkSh, h]
    · refine (hstrict hi).imp ?_
      intro a b h x hx y hy
      obtain ⟨t, _, rfl⟩ := List.mem_map.1 hx
      obtain ⟨u, _, rfl⟩ := List.mem_map.1 hy
      simp [klt, mkSh, h]
  · intro x
    unfold canon
    rw [List.mem_flatMap]
    constructor
    · rintro ⟨id, _, hx⟩
      obtain ⟨t, ht, rfl⟩ := List.mem_map.1 hx
      have h1 := List.mem_filter.1 ((srt_perm _).mem_iff.1 ht)
      exact ⟨rfl, by simpa [mkSh] using h1.2⟩
    · rintro ⟨h1, h2⟩
      have hne : F x.mem x.top ≠ [] := h1 ▸ h2
      obtain ⟨h3, h4⟩ := hF _ _ hne
      refine ⟨x.mem, (srt_perm _).mem_iff.2 h3, List.mem_map.2 ⟨x.top, (srt_perm _).mem_iff.2 (List.mem_filter.2 ⟨h4, by simpa using hne⟩), ?_⟩⟩
      cases x
      simp only [mkSh] at *
      rw [h1]
theorem gives_append (a b : List (ByteArray × ByteArray × Int)) (m t : ByteArray) : gives (a ++ b) m t = gives a m t ++ gives b m t := by simp [gives]
theorem gives_flatMap {α : Type} (f : α → List (ByteArray × ByteArray × Int)) (m t : ByteArray) : ∀ l : List α, gives (l.flatMap f) m t = l.flatMap fun x => gives (f x) m t
  | [] => rfl
  | x :: l => by rw [List.flatMap_cons, gives_append, gives_flatMap f m t l, List.flatMap_cons]
theorem gives_row (k s : ByteArray) (ps : List Int) (m t : ByteArray) : gives (ps.map fun p => (k, s, p)) m t = if k = m ∧ s = t then ps else [] := by
  by_cases h : k = m ∧ s = t
  · rw [if_pos h]
    simp only [gives, List.filter_map, List.map_map, Function.comp_def, h]
    simp
  · rw [if_neg h]
    simp only [gives, List.filter_map, List.map_map, Function.comp_def, h, decide_false]
    simp
/-- One topic's gifts by ranges. -/
def topicSeq (ids : List ByteArray) (t : ByteArray) (ps : List Int) : List (ByteArray × ByteArray × Int) :=
  (List.range ids.length).flatMap fun k => (rpart ps ids.length k).map fun p => (ids.getD k default, t, p)
def rangeSeq (l : List (ByteArray × List ByteArray)) (tm : List (ByteArray × List Int)) : List (ByteArray × ByteArray × Int) :=
  tm.flatMap fun x => topicSeq (srt (wantIds l x.1)) x.1 x.2
theorem flatMap_one {β : Type} (g : Nat → List β) (i : Nat) : ∀ n, (∀ k, k < n → k ≠ i → g k = []) → (List.range n).flatMap g = if i < n then g i else []
  | 0, _ => by simp
  | n + 1, h => by
    rw [List.range_succ, List.flatMap_append, flatMap_one g i n (fun k hk => h k (by omega))]
    simp only [List.flatMap_cons, List.flatMap_nil, List.append_nil]
    by_cases h1 : i < n
    · rw [if_pos h1, if_pos (by omega), h n (by omega) (by omega), List.append_nil]
    · rw [if_neg h1, List.nil_append]
      by_cases h2 : i = n
      · subst h2; rw [if_pos (by omega)]
      · rw [if_neg (by omega), h n (by omega) (by omega)]
theorem gives_topic (ids : List ByteArray) (hn : ids.Nodup) (s : ByteArray) (ps : List Int) (m t : ByteArray) : gives (topicSeq ids s ps) m t = if s = t then rangeOf ids ps m else [] := by
  unfold topicSeq
  rw [gives_flatMap]
  simp only [gives_row]
  by_cases hs : s = t
  · rw [if_pos hs]
    simp only [hs, and_true]
    by_cases hm : m ∈ ids
    · have hlt : ids.idxOf m < ids.length := List.idxOf_lt_length_iff.2 hm
      rw [flatMap_one _ (ids.idxOf m) _ (fun k hk hne => if_neg (fun e => hne (by
        rw [← e, List.getD_eq_getElem?_getD, List.getElem?_eq_getElem hk]
        exact (hn.idxOf_getElem k hk).symm))), if_pos hlt]
      rw [if_pos (by rw [List.getD_eq_getElem?_getD, List.getElem?_eq_getElem hlt]; simp)]
      simp [rangeOf, hm]
    · have : ∀ k, k < ids.length → ids.getD k default ≠ m := fun k hk e => hm (by
        rw [← e, List.getD_eq_getElem?_getD, List.getElem?_eq_getElem hk]
        exact List.getElem_mem hk)
      rw [flatMap_one _ ids.length _ (fun k hk _ => if_neg (this k hk))]
      simp [rangeOf, hm]
  · rw [if_neg hs]
    simp [hs]
theorem gives_range (l : List (ByteArray × List ByteArray)) (hl : (l.map Prod.fst).Nodup) : ∀ (tm : List (ByteArray × List Int)), (tm.map Prod.fst).Nodup → ∀ m t, gives (rangeSeq l tm) m t = if t ∈ tm.map Prod.fst then rangePlan l tm m t else []
  | [], _, m, t => by simp [rangeSeq, gives]
  | x :: r, h, m, t => by
    have h' := List.nodup_cons.1 (show (x.1 :: r.map Prod.fst).Nodup from h)
    have ih := gives_range l hl r h'.2 m t
    unfold rangeSeq at ih ⊢
    have hw : (wantIds l x.1).Nodup := hl.sublist ((List.filter_sublist (l := l)).map _)
    rw [List.flatMap_cons, gives_append, ih, gives_topic _ (srt_nodup hw)]
    by_cases hx : x.1 = t
    · subst hx
      rw [if_pos rfl, if_neg h'.1, if_pos (by simp)]
      simp [rangePlan, tget]
    · rw [if_neg hx, List.nil_append]
      have hx' : ¬ t = x.1 := fun e => hx e.symm
      simp only [List.map_cons, List.mem_cons, hx', false_or, rangePlan, tget, hx, if_false]

theorem rpart_nil (n i : Nat) : rpart [] n i = [] := by simp [rpart]
theorem gives_rangeP (l : List (ByteArray × List ByteArray)) (hl : (l.map Prod.fst).Nodup) (tm : List (ByteArray × List Int)) (h : (tm.map Prod.fst).Nodup) : gives (rangeSeq l tm) = rangePlan l tm := by
  funext m t
  rw [gives_range l hl tm h]
  split
  · rfl
  · rename_i hn
    have : ∀ tm : List (ByteArray × List Int), t ∉ tm.map Prod.fst → tget tm t = [] := by
      intro tm
      induction tm with
      | nil => intro _; rfl
      | cons p r ih =>
        intro hh
        have : p.1 ≠ t := fun e => hh (by simp [e])
        simp only [tget, this, if_false]
        exact ih (fun hm => hh (by simp; exact .inr (by simpa using hm)))
    simp only [rangePlan, this tm hn, rangeOf, rpart_nil, ite_self]
/-- The number of the next member that wants a topic, from i on, n steps at most. -/
def rnext (l : List (ByteArray × List ByteArray)) (t : ByteArray) : Nat → Nat → Nat
  | 0, i => i
  | n + 1, i => if (match l[i % l.length]? with | some x => decide (t ∈ x.2) | none => false) = true then i else rnext l t n (i + 1)
def wantsAt (l : List (ByteArray × List ByteArray)) (t : ByteArray) (i : Nat) : Bool := match l[i % l.length]? with | some x => decide (t ∈ x.2) | none => false
theorem rnext_succ (l : List (ByteArray × List ByteArray)) (t : ByteArray) (n i : Nat) : rnext l t (n + 1) i = if wantsAt l t i = true then i else rnext l t n (i + 1) := rfl
theorem rnext_wants (l : List (ByteArray × List ByteArray)) (t : ByteArray) : ∀ n i, (∃ j, i ≤ j ∧ j ≤ i + n ∧ wantsAt l t j = true) → wantsAt l t (rnext l t n i) = true
  | 0, i, ⟨j, h1, h2, h3⟩ => by
    obtain rfl : j = i := by omega
    exact h3
  | n + 1, i, ⟨j, h1, h2, h3⟩ => by
    rw [rnext_succ]
    split
    · assumption
    · rename_i hn
      refine rnext_wants l t n (i + 1) ⟨j, ?_, by omega, h3⟩
      rcases Nat.eq_or_lt_of_le h1 with rfl | h
      · exact absurd h3 hn
      · omega
/-- Among as many numbers in a row as there are members each member comes. -/
theorem wantsAt_some {l : List (ByteArray × List ByteArray)} {t : ByteArray} {x : ByteArray × List ByteArray} (hx : x ∈ l) (ht : t ∈ x.2) (i : Nat) : ∃ j, i ≤ j ∧ j ≤ i + l.length ∧ wantsAt l t j = true := by
  obtain ⟨k, hk, rfl⟩ := List.mem_iff_getElem.1 hx
  have hn : 0 < l.length := by omega
  have hdiv := Nat.div_add_mod i l.length
  by_cases h : i % l.length ≤ k
  · refine ⟨i - i % l.length + k, by omega, by have := Nat.mod_lt i hn; omega, ?_⟩
    have : (i - i % l.length + k) % l.length = k := by
      rw [show i - i % l.length + k = k + l.length * (i / l.length) by omega, Nat.add_mul_mod_self_left, Nat.mod_eq_of_lt hk]
    simp [wantsAt, this, hk, ht]
  · refine ⟨i - i % l.length + l.length + k, by have := Nat.mod_lt i hn; omega, by omega, ?_⟩
    have : (i - i % l.length + l.length + k) % l.length = k := by
      have h2 : l.length * (i / l.length + 1) = l.length * (i / l.length) + l.length := by rw [Nat.mul_add, Nat.mul_one]
      rw [show i - i % l.length + l.length + k = k + l.length * (i / l.length + 1) by omega, Nat.add_mul_mod_self_left, Nat.mod_eq_of_lt hk]
    simp [wantsAt, this, hk, ht]
/-- The gifts of round robin: members in order, pairs of topics and partitions in order, where one begins. -/
def roundSeq (l : List (ByteArray × List ByteArray)) : List (ByteArray × Int) → Nat → List (ByteArray × ByteArray × Int)
  | [], _ => []
  | x :: r, i => if wantsAt l x.1 (rnext l x.1 l.length i) = true then ((l.getD (rnext l x.1 l.length i % l.length) (default, [])).1, x.1, x.2) :: roundSeq l r (rnext l x.1 l.length i + 1) else roundSeq l r (rnext l x.1 l.length i)
end Go.Proofs.YtghgffhcdnmpnaaGreat
