/-
  How data that come in are read: what their memory holds; FnSteps' law for such. Conditions: none.
-/
import Derived.Test.YtmpjikihnmagoaaGreatDoorZT70
import Derived.ProofKit
import Derived.OpenShut
import Derived.Carry
import Derived.WideKeyArgs
import Derived.ChangeSlices
import Derived.ChangeSame
import Derived.ChangeCalls
import Derived.JoinedOf
import Derived.JoinedAt
import Derived.Test.YtmpjikihnmagoaaGreatDoorRows
import Derived.LaidMore
import Derived.Stop.Joined
set_option maxRecDepth 100000
namespace Go.Proofs.YtmpjikihnmagoaaGreatDoor
open Go.ChangeShapes Go.WideShapes Go.ChangeAt Go.RowKit
theorem list_of {α : Type} (P : Nat → α → Prop) : ∀ n, (∀ i, i < n → ∃ x, P i x) → ∃ l : List α, l.length = n ∧ ∀ i x, l[i]? = some x → P i x
 | 0, _ => ⟨[], rfl, by simp⟩
 | n + 1, h => by
  obtain ⟨l, hl, hp⟩:=list_of P n (fun i hi => h i (by omega))
  obtain ⟨x, hx⟩:=h n (by omega)
  refine ⟨l ++ [x], by simp [hl], fun i y hy => ?_⟩
  rcases Nat.lt_or_ge i n with hi | hi
  ·rw [List.getElem?_append_left (by omega)] at hy
   exact hp i y hy
  ·rw [List.getElem?_append_right (by omega), hl] at hy
   have hi0 : i - n = 0:=by
    rcases Nat.eq_zero_or_pos (i - n) with h0 | h0
    ·exact h0
    ·rw [List.getElem?_eq_none (by simp; omega)] at hy; cases hy
   rw [hi0] at hy
   have : y = x:=by simpa using hy.symm
   rw [this, show i = n by omega]
   exact hx
theorem add_at (b off k : Nat) : (⟨b, off, none⟩ : Addr).add k = ⟨b, off + k, none⟩:=by
 unfold Addr.add
 split <;> simp_all
section
variable {H : Type} {enc : TypeId × Value → H} {w : World} {b0 fuel : Nat} {cs : List Value} {x : DataW H × List MemPlace}
/-- A slice that is read, its elements read one by one. -/
theorem trod_sl {t e : TypeId} {sz : Nat} {α : Type} {f : α → List Value} {Good : α → Prop} (ht : Tryz.prog.underlying t = some (.slice e)) (hc : Tryz.prog.cellsOf e = sz) (hs : 0 < sz) (hf : ∀ y, (f y).length = sz)
  (helem : ∀ n cs x, DataW.trod enc Tryz.prog w b0 (fun _ => true) true n e cs = some x → ∃ y, cs = f y ∧ Good y) (h : DataW.trod enc Tryz.prog w b0 (fun _ => true) true fuel t cs = some x) :
  ∃ A l c, cs = [.slice A (List.length l) c] ∧ SlIs w sz A (List.length l) (l.flatMap f) ∧ (∀ a, A = some a → 0 < List.length l → a.block < w.heap.size) ∧ List.length l ≤ c ∧ ∀ y ∈ l, Good y:=by
 rcases DataW.trod_slice ht h with ⟨rfl, _⟩ | ⟨a, len, cap, elems, rest, n, _, rfl, _, hb, hl, hm, hlen, hel, _, _⟩
 ·exact ⟨none, [], 0, rfl, SlIs.nil _ _ _, (by simp), Nat.le_refl _, by simp⟩
 ·have hex : ∀ i, i < len → ∃ y : α, Good y ∧ ∀ j v, (f y)[j]? = some v → w.cell? ((a.add (i * sz)).add j) = some v:=by
   intro i hi
   have h1:=hel i hi
   rw [List.getElem?_eq_getElem (by omega), hc, Option.bind_eq_some_iff] at h1
   obtain ⟨cs', h2, h3⟩:=h1
   obtain ⟨_, hl2, h4⟩:=World.cells?_some h2
   obtain ⟨y, rfl, hg⟩:=helem _ _ _ h3
   refine ⟨y, hg, fun j v hv => ?_⟩
   rw [h4 j (by have:=(List.getElem?_eq_some_iff.1 hv).1; rw [hf] at this; exact this), hv]
  obtain ⟨l, hll, hlp⟩:=list_of _ len hex
  subst hll
  refine ⟨some a, l, cap, rfl, ⟨flat_len f sz hf l, by unfold maxLen at hm; omega, fun hpos => ?_⟩, fun a' ha' hpos => ?_, hl, fun y hy => ?_⟩
  ·obtain ⟨y0, hy0⟩ : ∃ y, l[0]? = some y:=⟨_, List.getElem?_eq_getElem hpos⟩
   have hc0:=(hlp 0 y0 hy0).2 0 _ (List.getElem?_eq_getElem (by rw [hf]; exact hs))
   obtain ⟨b, off, spot⟩:=a
   have hspot : spot = none:=by simpa [Addr.add] using World.cell?_spot hc0
   subst hspot
   refine ⟨b, off, rfl, fun i v hv => ?_⟩
   have hi : i < l.length * sz:=by have:=(List.getElem?_eq_some_iff.1 hv).1; rwa [flat_len f sz hf] at this
   have hdm : i = i / sz * sz + i % sz:=by have:=Nat.div_add_mod i sz; rw [Nat.mul_comm]; omega
   rw [hdm, flat_get f sz hf hs l _ _ (Nat.mod_lt _ hs)] at hv
   cases hli : l[i / sz]? with
   | none => rw [hli] at hv; cases hv
   | some y =>
    rw [hli] at hv
    have:=(hlp _ y hli).2 (i % sz) v hv
    rw [add_at, add_at] at this
    rw [show off + i = off + i / sz * sz + i % sz by omega]
    exact this
  ·cases ha'
   obtain ⟨y0, hy0⟩ : ∃ y, l[0]? = some y:=⟨_, List.getElem?_eq_getElem hpos⟩
   have hc0:=(hlp 0 y0 hy0).2 0 _ (List.getElem?_eq_getElem (by rw [hf]; exact hs))
   have:=World.block_lt_of_cell? _ _ hc0
   obtain ⟨b, off, spot⟩:=a
   have hspot : spot = none:=by simpa [Addr.add] using World.cell?_spot hc0
   subst hspot
   rw [add_at, add_at] at this
   exact this
  ·obtain ⟨i, hi⟩:=List.getElem?_of_mem hy
   exact (hlp i y hi).1
theorem trod_u8s (h : DataW.trod enc Tryz.prog w b0 (fun _ => true) true fuel 34 cs = some x) : ∃ A, ∃ l : List UInt8, ∃ c, cs = [.slice A l.length c] ∧ SlIs w 1 A l.length (Lib.byteCells l) ∧ (∀ a, A = some a → 0 < l.length → a.block < w.heap.size):=by
 have:=trod_sl (sz:=1) (f:=fun b : UInt8 => [Value.int .u8 (b.toNat : Int)]) (Good:=fun _ => True) Tryz.underlying34 (by kernel_rfl) (by omega) (fun _ => rfl) (fun n cs x h => by
  obtain ⟨k, rfl, _, hw⟩:=DataW.trod_int Tryz.underlying5 h
  simp [Lit.wf, IntKind.min, IntKind.max, IntKind.signed, IntKind.bits] at hw
  refine ⟨k.toNat.toUInt8, ?_, trivial⟩
  have hk : ((k.toNat.toUInt8.toNat : Nat) : Int) = k:=by
   simp [Nat.toUInt8, UInt8.toNat_ofNat']
   omega
  rw [hk]) h
 obtain ⟨A, l, c, h1, h2, h3, _, _⟩:=this
 refine ⟨A, l, c, h1, ?_, h3⟩
 have e : l.flatMap (fun b : UInt8 => [Value.int .u8 (b.toNat : Int)]) = Lib.byteCells l:=by
  simp [Lib.byteCells, List.map_eq_flatMap]
 rw [e] at h2
 exact h2
theorem trod_texts (h : DataW.trod enc Tryz.prog w b0 (fun _ => true) true fuel 43 cs = some x) : ∃ A, ∃ l : List ByteArray, ∃ c, cs = [.slice A l.length c] ∧ SlIs w 1 A l.length (strs l) ∧ (∀ a, A = some a → 0 < l.length → a.block < w.heap.size):=by
 have:=trod_sl (sz:=1) (f:=fun s : ByteArray => [Value.string s]) (Good:=fun _ => True) Tryz.underlying43 (by kernel_rfl) (by omega) (fun _ => rfl) (fun n cs x h => by
  obtain ⟨s, rfl, _, _⟩:=DataW.trod_string Tryz.underlying9 h
  exact ⟨s, rfl, trivial⟩) h
 obtain ⟨A, l, c, h1, h2, h3, _, _⟩:=this
 refine ⟨A, l, c, h1, ?_, h3⟩
 simpa [strs, List.map_eq_flatMap] using h2
theorem num64_of {k : Int} (hw : (Lit.int .i64 k).wf = true) : Num64 k:=by
 simp [Lit.wf, IntKind.min, IntKind.max, IntKind.signed, IntKind.bits] at hw
 unfold Num64
 omega
theorem trod_nums (h : DataW.trod enc Tryz.prog w b0 (fun _ => true) true fuel 44 cs = some x) : ∃ A, ∃ l : List Int, ∃ c, cs = [.slice A l.length c] ∧ SlIs w 1 A l.length (l.map (Value.int .i64)) ∧ (∀ a, A = some a → 0 < l.length → a.block < w.heap.size) ∧ ∀ y ∈ l, Num64 y:=by
 have:=trod_sl (sz:=1) (f:=fun k : Int => [Value.int .i64 k]) (Good:=Num64) Tryz.underlying44 (by kernel_rfl) (by omega) (fun _ => rfl) (fun n cs x h => by
  obtain ⟨k, rfl, _, hw⟩:=DataW.trod_int Tryz.underlying2 h
  exact ⟨k, rfl, num64_of hw⟩) h
 obtain ⟨A, l, c, h1, h2, h3, _, h4⟩:=this
 refine ⟨A, l, c, h1, ?_, h3, h4⟩
 simpa [List.map_eq_flatMap] using h2
theorem one_take {cs : List Value} {k n : Nat} (_hl : cs.length = n) (_hk : k < n) {v : Value} (h : (cs.drop k).take 1 = [v]) : cs[k]? = some v:=by
 have h':=congrArg (fun l => l[0]?) h
 simpa [List.getElem?_take, List.getElem?_drop] using h'
theorem list7 {cs : List Value} {a b c d e f g : Value} (hl : cs.length = 7) (h0 : cs[0]? = some a) (h1 : cs[1]? = some b) (h2 : cs[2]? = some c) (h3 : cs[3]? = some d) (h4 : cs[4]? = some e) (h5 : cs[5]? = some f) (h6 : cs[6]? = some g) : cs = [a, b, c, d, e, f, g]:=by
 match cs, hl with
 | [x0, x1, x2, x3, x4, x5, x6], _ => simp at h0 h1 h2 h3 h4 h5 h6; rw [h0, h1, h2, h3, h4, h5, h6]
/-- What is known of a datum that came in. -/
structure SkGood (w : World) (k : Sk) : Prop where
 st : StW (· < w.heap.size) w k.q.x k.q.a1 k.q.a2 k.q.a3
 n : Num64 k.q.x.n
 nums : ∀ y ∈ k.q.x.nums, Num64 y
 kind : k.q.x.kind = k.ki.toNat
theorem trod_step (h : DataW.trod enc Tryz.prog w b0 (fun _ => true) true fuel 46 cs = some x) : ∃ k, cs = Sk.cells k ∧ SkGood w k:=by
 obtain ⟨xs, n, _, _, hl, hxl, hf⟩:=DataW.trod_struct Tryz.underlying46 h
 rw [show Tryz.prog.cellsOf 46 = 7 by kernel_rfl] at hl
 have c3 : Tryz.prog.cellsOf 3 = 1:=by kernel_rfl
 have c2 : Tryz.prog.cellsOf 2 = 1:=by kernel_rfl
 have c9 : Tryz.prog.cellsOf 9 = 1:=by kernel_rfl
 have c4 : Tryz.prog.cellsOf 4 = 1:=by kernel_rfl
 have c34 : Tryz.prog.cellsOf 34 = 1:=by kernel_rfl
 have c43 : Tryz.prog.cellsOf 43 = 1:=by kernel_rfl
 have c44 : Tryz.prog.cellsOf 44 = 1:=by kernel_rfl
 have h0 : DataW.trod enc Tryz.prog w b0 (fun _ => true) true n 3 ((cs.drop 0).take (Tryz.prog.cellsOf 3)) = xs[0]?:=hf 0 _ rfl
 have h1 : DataW.trod enc Tryz.prog w b0 (fun _ => true) true n 2 ((cs.drop 1).take (Tryz.prog.cellsOf 2)) = xs[1]?:=hf 1 _ rfl
 have h2 : DataW.trod enc Tryz.prog w b0 (fun _ => true) true n 9 ((cs.drop 2).take (Tryz.prog.cellsOf 9)) = xs[2]?:=hf 2 _ rfl
 have h3 : DataW.trod enc Tryz.prog w b0 (fun _ => true) true n 4 ((cs.drop 3).take (Tryz.prog.cellsOf 4)) = xs[3]?:=hf 3 _ rfl
 have h4 : DataW.trod enc Tryz.prog w b0 (fun _ => true) true n 34 ((cs.drop 4).take (Tryz.prog.cellsOf 34)) = xs[4]?:=hf 4 _ rfl
 have h5 : DataW.trod enc Tryz.prog w b0 (fun _ => true) true n 43 ((cs.drop 5).take (Tryz.prog.cellsOf 43)) = xs[5]?:=hf 5 _ rfl
 have h6 : DataW.trod enc Tryz.prog w b0 (fun _ => true) true n 44 ((cs.drop 6).take (Tryz.prog.cellsOf 44)) = xs[6]?:=hf 6 _ rfl
 have hxl : xs.length = 7:=hxl
 rw [List.getElem?_eq_getElem (by omega)] at h0 h1 h2 h3 h4 h5 h6
 rw [c3] at h0
 rw [c2] at h1
 rw [c9] at h2
 rw [c4] at h3
 rw [c34] at h4
 rw [c43] at h5
 rw [c44] at h6
 obtain ⟨ki, e0, _, _⟩:=DataW.trod_int Tryz.underlying3 h0
 obtain ⟨nn, e1, _, hn⟩:=DataW.trod_int Tryz.underlying2 h1
 obtain ⟨s, e2, _, _⟩:=DataW.trod_string Tryz.underlying9 h2
 obtain ⟨nl, e3, _⟩:=DataW.trod_bool Tryz.underlying4 h3
 obtain ⟨A1, l1, d1, e4, b1, b2⟩:=trod_u8s h4
 obtain ⟨A2, l2, d2, e5, t1, t2⟩:=trod_texts h5
 obtain ⟨A3, l3, d3, e6, n1, n2, n3⟩:=trod_nums h6
 refine ⟨{ ki:=ki, q:={ x:=⟨ki.toNat, nn, s, nl, l1, l2, l3⟩, a1:=A1, a2:=A2, a3:=A3, c1:=d1, c2:=d2, c3:=d3 } }, list7 hl (one_take hl (by omega) e0) (one_take hl (by omega) e1) (one_take hl (by omega) e2) (one_take hl (by omega) e3) (one_take hl (by omega) e4) (one_take hl (by omega) e5) (one_take hl (by omega) e6), ⟨b1, t1, n1, b2, t2, n2⟩, num64_of hn, n3, rfl⟩
/-- Data that came in. -/
theorem trod_steps (h : DataW.trod enc Tryz.prog w b0 (fun _ => true) true fuel 40 cs = some x) : ∃ A, ∃ l : List (Int × St), ∃ c, cs = [.slice A l.length c] ∧ SkAt (· < w.heap.size) w A l ∧ l.length ≤ c ∧ (∀ p ∈ l, Num64 p.2.n) ∧ (∀ p ∈ l, ∀ y ∈ p.2.nums, Num64 y) ∧ ∀ p ∈ l, p.2.kind = p.1.toNat:=by
 obtain ⟨A, q, c, h1, h2, h3, h4, h5⟩:=trod_sl (sz:=7) Tryz.underlying40 (by kernel_rfl) (by omega) Sk.len (fun n cs x h => trod_step h) h
 refine ⟨A, q.map (fun k => (k.ki, k.q.x)), c, by rw [List.length_map]; exact h1, ⟨q, rfl, by rw [List.length_map]; exact h2, by rw [List.length_map]; exact h3, fun k hk => (h5 k hk).st⟩, by rw [List.length_map]; exact h4, ?_, ?_, ?_⟩
 ·intro p hp
  obtain ⟨k, hk, rfl⟩:=List.mem_map.1 hp
  exact (h5 k hk).n
 ·intro p hp
  obtain ⟨k, hk, rfl⟩:=List.mem_map.1 hp
  exact (h5 k hk).nums
 ·intro p hp
  obtain ⟨k, hk, rfl⟩:=List.mem_map.1 hp
  exact (h5 k hk).kind
end
theorem has_lt {w : World} {base : Nat} {a : Addr} {e : TypeId} {n : Nat} (h : w.has Tryz.prog .any base a e n) : a.block < w.heap.size:=by
 obtain ⟨_, _, row, cells, h1, _⟩:=h
 unfold World.shape? at h1
 rcases Nat.lt_or_ge a.block w.heap.size with h2 | h2
 ·exact h2
 ·rw [Array.getElem?_eq_none h2] at h1
  cases h1
end Go.Proofs.YtmpjikihnmagoaaGreatDoor
/-
 FnSteps' law: how its statement follows from its walk. Conditions: none.
-/
namespace Go.Proofs.YtmpjikihnmagoaaGreatDoor
open Go.ChangeShapes Go.WideShapes Go.ChangeAt Go.RowKit
theorem own0 : ownKnob Tryz.prog.godebug = none:=by kernel_rfl
theorem laid0 : laidOutB Tryz.prog = true:=by kernel_rfl
section
variable {H : Type} {enc : TypeId × Value → H} {P : Program}
theorem trodAll_stays (hl : laidOutB P = true) {W W' : World} {base : Nat} {sp : Nat → Bool} : ∀ {ts : List TypeId} {vs : List Value} {ds : List (DataW H)} {ps : List MemPlace}, (∀ t ∈ ts, P.readableRec t = true ∧ t < P.types.size) →
  DataW.TrodAll enc P W base (fun _ => true) true ts vs ds ps → (∀ p ∈ ps, W.sameAt W' p) → (∀ p ∈ ps, sp p.block = true) → DataW.TrodAll enc P W' base sp true ts vs ds ps
 | [], [], [], _, _, h, _, _ => h
 | t :: ts, v :: vs, d :: ds, ps, hr, h, h1, h2 => by
  obtain ⟨p, q, ha, hb, rfl⟩:=h
  have ht:=hr t (.head _)
  exact ⟨p, q, WideElems.Trod_stays hl ht.1 ht.2 ha (fun x hx => h1 x (List.mem_append_left _ hx)) (fun x hx => h2 x (List.mem_append_left _ hx)),
   trodAll_stays hl (fun t ht => hr t (.tail _ ht)) hb (fun x hx => h1 x (List.mem_append_right _ hx)) (fun x hx => h2 x (List.mem_append_right _ hx)), rfl⟩
 | [], _ :: _, _, _, _, h, _, _ => h.elim
 | [], [], _ :: _, _, _, h, _, _ => h.elim
 | _ :: _, [], _, _, _, h, _, _ => h.elim
 | _ :: _, _ :: _, [], _, _, h, _, _ => h.elim
theorem post_of_below {f : Func} {s : ChangeSpec} {apart fresh handsOn again : Bool} {W W' : World} {args : Array Value} {v : Value} {ds gs : List (DataW H)} {before pa pv : List MemPlace}
  (hW : DataW.Whole enc P f.params.toList s.vars apart W args.toList ds gs before)
  (hres : ∀ (b : Nat) (sp : Nat → Bool) (hd : Bool), DataW.TrodAll enc P W' b sp hd f.resultTypes.toList (v.resultList f.resultTypes.size) (s.fn H (ds ++ gs)).results [])
  (hargs : ∀ sp : Nat → Bool, (∀ p ∈ before, sp p.block = true) → DataW.TrodAll enc P W' 0 sp true f.params.toList args.toList (s.fn H (ds ++ gs)).args pa)
  (hvars : ∀ sp : Nat → Bool, (∀ p ∈ before, sp p.block = true) → DataW.TrodVars enc P W' sp s.vars (s.fn H (ds ++ gs)).vars pv)
  (hps : before = pa ++ pv) (hb : Below W.heap.size W W')
  (hok : ∀ (j : Nat) (t : TypeId) (r : Value), f.resultTypes[j]? = some t → (v.resultList f.resultTypes.size)[j]? = some r → Value.okWide P W' .any 0 t r) :
  s.post enc P f apart fresh handsOn again W args v W':=by
 have hlt : ∀ p ∈ before, p.block < W.heap.size:=fun p hp => hW.lt p hp
 have hold : ∀ p ∈ before, (fun b => decide (b < W.heap.size)) p.block = true:=fun p hp => by simpa using hlt p hp
 refine ⟨ds, gs, before, [], pa, pv, hW, hres _ _ _, hargs _ hold, hvars _ hold, World.keptBut_mono (fun p hp => ⟨hp, ?_⟩) (hb.frame (· ∈ before)), fun _ => ?_⟩
 ·rw [hps, List.mem_append] at hp
  exact Or.inr hp
 ·obtain ⟨_, _, _, _, _, hz, hn⟩:=hW
  refine ⟨hok, _, _, ([] ++ pa) ++ pv, ⟨[] ++ pa, pv, trodAll_append (hargs _ (fun _ _ => rfl)) (hres _ _ _), hvars _ (fun _ _ => rfl), rfl, ?_, ?_⟩, ?_⟩
  ·intro b off hp
   have hin : MemPlace.cell b off ∈ before:=by rw [hps]; simpa using hp
   rw [hb.frozen (hlt _ hin)]
   exact hz b off hin
  ·intro ha
   have:=hn ha
   rw [hps] at this
   simpa using this
  ·intro p hp _
   rw [hps]
   simpa using hp
end
/-- What a law's walk owes. -/
def LawWalk (f : FuncId) (fn : Func) : Prop:=∀ (H : Type) (enc : TypeId × Value → H) (W : World) (base : Nat) (args : Array Value) (ds : List (DataW H)) (ps : List MemPlace),
 (∀ (j : Nat) t v, fn.params[j]? = some t → args[j]? = some v → Value.okWide Tryz.prog W .any base t v) →
 DataW.TrodAll enc Tryz.prog W 0 (fun _ => true) true fn.params.toList args.toList ds ps →
 Calls Tryz.prog f args W fun e W' => e = .returned (.bool true) ∧ Below W.heap.size W W'
def laid1 : List (String × DataW Unit):=[("pub-kestrel/pub/sarama.ErrUnknownMessage", Rows.laid_pub_kestrel_pub_sarama_ErrUnknownMessage)]
theorem door_met (os : Os) (args : Array Value) : laidMetH Tryz.prog laid1 ((World.doorLaid Tryz.prog 96 os).forCall (fun _ _ => 0) ⟨#[], args, []⟩).memory :=
 laidMetH_of_parts3 (fuel:=8) (laidMet_of_run' 8 (by kernel_rfl) (by kernel_rfl)) (by kernel_rfl) (by kernel_rfl)
theorem fnSteps_law : LawWalk 5 Tryz.f5:=by
 intro H enc W base args ds ps hval hA
 rw [Tryz.params5] at hA hval
 obtain ⟨v0, vs0, d0, ds0, p0, q0, hargs, rfl, rfl, h0, r0⟩:=trodAll_cons hA
 obtain ⟨v1, d1, hv, rfl, h1⟩:=trodAll_one (args:=vs0.toArray) (by simpa using r0)
 obtain rfl : args = #[v0, v1]:=by
  have e : vs0 = [v1]:=by simpa using congrArg Array.toList hv
  subst e
  cases args
  simp_all
 obtain ⟨fl, rfl, rfl, rfl⟩:=open_bool Tryz.underlying4 (hval 1 4 v1 rfl rfl) h1
 have hok:=hval 0 40 v0 rfl rfl
 obtain ⟨a0, len, cap, rfl⟩:=okWide_slice Tryz.underlying40 hok
 obtain ⟨fuel, hf⟩:=h0
 obtain ⟨A, l, c, hcs, hsk, hlc, hn64, h64, hki⟩:=trod_steps hf
 simp [Value.cells] at hcs
 obtain ⟨rfl, rfl, rfl⟩:=hcs
 have hAo : ∀ a, a0 = some a → a.block < W.heap.size:=fun a ha => by
  subst ha
  simp only [Value.okWide, Tryz.underlying40, Cell.okWide, Cell.ok] at hok
  exact has_lt hok.2.2
 exact (fnSteps_walk fl a0 cap l W hsk hAo hlc hn64 h64 hki).mono fun e W' ⟨h1, h2⟩ => ⟨h1, h2.below⟩
/-- A law's lifted form, beside what the row lists. -/
theorem law_liftedL {f : FuncId} {fn : Func} {s : ChangeSpec} {H : Type} {enc : TypeId × Value → H} (hwalk : LawWalk f fn) (hfn : Tryz.prog.funcs[f]? = some fn) (noInit : Tryz.checked.prog.inits.idxOf? f = none) (os : Os) (started : os.Started)
  (hrd : ∀ t ∈ fn.params.toList, Tryz.prog.readableRec t = true ∧ t < Tryz.prog.types.size) (hres : fn.resultTypes = #[4]) (hvars : s.vars = [])
  (hspec : ∀ ds : List (DataW H), ds.length = fn.params.size → s.fn H (ds ++ []) = { results:=[.lit (.bool true)], args:=ds })
  (witness : ∃ (w : World) (tape : Tape) (i : Input), w.os = os ∧ (w.forCall tape i).Shaped Tryz.prog ∧ i.vars = [] ∧ Input.okWide Tryz.checked.prog (w.forCall tape i) .any w.heap.size f i ∧
   ((s.pre enc Tryz.prog fn [] false (w.forCall tape i).memory i.args ∧ laidMetH Tryz.prog laid1 (w.forCall tape i).memory) ∧ sizedMet enc Tryz.prog fn (OpenSpec.ofChange s) false (w.forCall tape i).memory i.args) ∧ ({} : Assume).holds Tryz.prog (lone (Frame.enter Tryz.prog f i.args .normal) [] (w.forCall tape i))) :
  ReturnsInHanded {} Tryz.checked os f .any (fun w args => (s.pre enc Tryz.prog fn [] false w args ∧ laidMetH Tryz.prog laid1 w) ∧ sizedMet enc Tryz.prog fn (OpenSpec.ofChange s) false w args) (s.post enc Tryz.prog fn false true false false):=by
 refine returnsInHanded_of_change_and (C:=Tryz.checked) (X:=fun w _ => laidMetH Tryz.prog laid1 w) (fun _ _ _ hh h => h.of_heap hh) own0 started noInit hfn witness ?_
 intro W base args ds gs before hval hW _ _ _ _
 have hW':=hW
 obtain ⟨p, q, hA, hV, rfl, _, _⟩:=hW
 rw [hvars] at hV
 obtain ⟨rfl, rfl⟩:=trodVars_none hV
 have hlen : ds.length = fn.params.size:=by simpa using (trodAll_length hA).2
 refine (hwalk H enc W base args ds p hval hA).mono fun e W' ⟨he, hb⟩ => ?_
 subst he
 have hs:=hspec ds hlen
 refine ⟨_, rfl, post_of_below (pa:=p) (pv:=[]) hW' (fun _ _ _ => ?_) (fun sp hsp => ?_) (fun sp _ => ?_) rfl hb ?_⟩
 ·rw [hs, hres]
  exact trodAll_mk1 (shut_bool Tryz.underlying4 _)
 ·rw [hs]
  simp only [List.append_nil] at hsp
  exact trodAll_stays laid0 hrd hA (fun x hx => hb.same (hW'.lt x (by simpa using hx))) hsp
 ·rw [hs, hvars]
  rfl
 ·exact ok_one hres rfl (okWide_bool_mk Tryz.underlying4 _)
theorem fnSteps_lifted (os : Os) (started : os.Started) (H : Type) (enc : TypeId × Value → H) :
  ReturnsInHanded {} Tryz.checked os 5 .any (fun w args => (Rows.fnStepsSpec.pre enc Tryz.prog Tryz.f5 [] false w args ∧ laidMetH Tryz.prog laid1 w) ∧ sizedMet enc Tryz.prog Tryz.f5 (OpenSpec.ofChange Rows.fnStepsSpec) false w args) (Rows.fnStepsSpec.post enc Tryz.prog Tryz.f5 false true false false) :=
 law_liftedL fnSteps_law Tryz.func5 (by kernel_rfl) os started (by rw [Tryz.params5]; decide +kernel) (by kernel_rfl) rfl
  (fun ds hd => by
   have hd : ds.length = 2:=hd
   match ds, hd with
   | [d0, d1], _ => rfl)
  (ChangeSpec.witness_shaped (enc:=enc) (C:=Tryz.checked) (os:=os) (X:=fun w _ => laidMetH Tryz.prog laid1 w) false (World.doorLaid Tryz.prog 96 os) #[.slice none 0 0, .bool false] 8 rfl (World.shaped_of_RefB (by kernel_rfl) (by kernel_rfl)) (by kernel_rfl) (by kernel_rfl) (by kernel_rfl) (door_met os _))
end Go.Proofs.YtmpjikihnmagoaaGreatDoor
