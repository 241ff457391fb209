/-
  A region that draws its order, by an invariant of what has been done. Conditions: no operation waits for a later one.
-/
import Derived.Test.YtmpjikihnmagoaaGreatDoorZB0
namespace Go.Proofs.YtmpjikihnmagoaaGreatDoor
open Go.RowKit
section
variable {P : Program} {ops : Array Oper} {Q : Exit → Act → World → Prop}
/-- No operation waits for a later one. -/
def backOk (ops : Array Oper) : Bool:=(List.range ops.size).all fun i => match ops[i]? with | none => true | some o => o.after.toList.all fun e => !Region.binds .any e || decide (e.on < i)
theorem wpAny_inv (hback : backOk ops = true) (Inv : Array Bool → Act → World → Prop)
  (hstep : ∀ listed a w i o, listed.size = ops.size → Inv listed a w → ops[i]? = some o → listed.getD i true = false → (∀ e ∈ o.after, Region.binds .any e = true → listed.getD e.on false = true) → wpOp P ops Q i (fun a' w' => Inv (listed.setIfInBounds i true) a' w') a w)
  (hend : ∀ listed a w, listed.size = ops.size → Inv listed a w → (∀ i, i < ops.size → listed.getD i true = true) → Q .normal a w) :
  ∀ (fuel : Nat) (listed : Array Bool) (a : Act) (w : World), listed.size = ops.size → (left ops.size listed).length = fuel → Inv listed a w → wpAny P .any ops Q fuel listed a w
 | 0, listed, a, w, hs, hc, hi => by
  have hnil : left ops.size listed = []:=List.eq_nil_of_length_eq_zero hc
  have hall : ∀ i, i < ops.size → listed.getD i true = true:=fun i hlt => by
   cases h : listed.getD i true with
   | true => rfl
   | false =>
    have : i ∈ left ops.size listed:=List.mem_filter.2 ⟨List.mem_range.2 hlt, by rw [h]; rfl⟩
    rw [hnil] at this
    cases this
  refine ⟨?_, hend _ _ _ hs hi hall⟩
  cases hr : Region.ready .any ops listed with
  | nil => rfl
  | cons i l =>
   have hm : i ∈ Region.ready .any ops listed:=by rw [hr]; exact .head _
   obtain ⟨h1, o, h2, _⟩:=mem_ready.1 hm
   have h3:=hall i (Array.getElem?_eq_some_iff.1 h2).1
   rw [h3] at h1
   cases h1
 | fuel + 1, listed, a, w, hs, hc, hi => by
  have hex : ∃ i, i ∈ left ops.size listed:=by
   cases h : left ops.size listed with
   | nil => rw [h] at hc; simp at hc
   | cons x l => exact ⟨x, .head _⟩
  have hready : Region.ready .any ops listed ≠ []:=by
   obtain ⟨i0, hi0⟩:=hex
   have : ∃ i, i ∈ left ops.size listed ∧ ∀ j, j < i → j ∉ left ops.size listed:=by
    induction i0 using Nat.strongRecOn with
    | _ i0 ih0 =>
     rcases Classical.em (∃ j, j < i0 ∧ j ∈ left ops.size listed) with ⟨j, h1, h2⟩ | h
     ·exact ih0 j h1 h2
     ·exact ⟨i0, hi0, fun j hj hm => h ⟨j, hj, hm⟩⟩
   obtain ⟨i, him, hmin⟩:=this
   have h1:=List.mem_filter.1 him
   have hio : i < ops.size:=by simpa using h1.1
   have hlf : listed.getD i true = false:=by simpa using h1.2
   have hmem : i ∈ Region.ready .any ops listed:=by
    refine mem_ready.2 ⟨hlf, ops[i], by simp [hio], fun e he hb => ?_⟩
    have hb1:=List.all_eq_true.1 hback i (by simpa using hio)
    simp only [Array.getElem?_eq_getElem hio] at hb1
    have hb2:=List.all_eq_true.1 hb1 e (by simpa using he)
    simp only [hb, Bool.not_true, Bool.false_or, decide_eq_true_eq] at hb2
    have hne:=hmin e.on hb2
    cases hl : listed.getD e.on false with
    | true => rfl
    | false =>
     exact absurd (List.mem_filter.2 ⟨by simp; omega, by
      have:=getD_in (listed:=listed) (i:=e.on) (by rw [hs]; omega) hl
      simpa using this⟩) hne
   intro h0
   rw [h0] at hmem
   cases hmem
  refine ⟨fun h0 => absurd h0 hready, fun i him => ?_⟩
  obtain ⟨hlf, o, ho, hall⟩:=mem_ready.1 him
  have hio:=(Array.getElem?_eq_some_iff.1 ho).1
  refine wpOp_mono (fun a' w' h' => ?_) (hstep listed a w i o hs hi ho hlf hall)
  exact wpAny_inv hback Inv hstep hend fuel _ a' w' (by simpa using hs) (by have:=left_set hio hlf; omega) h'
/-- The rule. -/
theorem wp_region_inv {id : Nat} {a0 : Act} {w0 : World} (hm : P.follows .mixedOrders = true) (hback : backOk ops = true) (Inv : Array Bool → Act → World → Prop) (h0 : Inv (Array.replicate ops.size false) a0 w0.drew)
  (hstep : ∀ listed a w i o, listed.size = ops.size → Inv listed a w → ops[i]? = some o → listed.getD i true = false → (∀ e ∈ o.after, Region.binds .any e = true → listed.getD e.on false = true) → wpOp P ops Q i (fun a' w' => Inv (listed.setIfInBounds i true) a' w') a w)
  (hend : ∀ listed a w, listed.size = ops.size → Inv listed a w → (∀ i, i < ops.size → listed.getD i true = true) → Q .normal a w) : (Code.region id ops true).wp P Q a0 w0:=by
 refine wp_region_any hm ?_
 refine wpAny_inv hback Inv hstep hend ops.size _ a0 w0.drew (by simp) ?_ h0
 unfold left
 rw [List.filter_eq_self.2 (fun i hi => by
  have : i < ops.size:=List.mem_range.1 hi
  simp [this])]
 simp
end
end Go.Proofs.YtmpjikihnmagoaaGreatDoor
