/-
  How lists of members and of shares that come in are read: what their memory holds. Conditions: none.
-/
import Derived.Test.YtghgffhcdnmpnaaGreatD0
namespace Go.Proofs.YtghgffhcdnmpnaaGreat
open Go.ChangeShapes Go.WideShapes Go.ChangeAt Go.RowKit

theorem list_of {α : Type} (P : Nat → α → Prop) : ∀ n, (∀ i, i < n → ∃ x, P i x) → ∃ l : List α, l.length = n ∧ ∀ i x, l[i]? = some x → P i x
  | 0, _ => ⟨[], rfl, by simp⟩
  | n + 1, h => by
    obtain ⟨l, hl, hp⟩ := list_of P n (fun i hi => h i (by omega))
    obtain ⟨x, hx⟩ := h n (by omega)
    refine ⟨l ++ [x], by simp [hl], fun i y hy => ?_⟩
    rcases Nat.lt_or_ge i n with hi | hi
    · rw [List.getElem?_append_left (by omega)] at hy
      exact hp i y hy
    · rw [List.getElem?_append_right (by omega), hl] at hy
      have hi0 : i - n = 0 := by
        rcases Nat.eq_zero_or_pos (i - n) with h0 | h0
        · exact h0
        · rw [List.getElem?_eq_none (by simp; omega)] at hy; cases hy
      rw [hi0] at hy
      have : y = x := by simpa using hy.symm
      rw [this, show i = n by omega]
      exact hx
section
variable {H : Type} {enc : TypeId × Value → H} {w : World} {b0 fuel : Nat} {cs : List Value} {x : DataW H × List MemPlace}
/-- A slice that is read, its elements read one by one. -/
theorem trod_sl {t e : TypeId} {sz : Nat} {α : Type} {f : α → List Value} {Good : α → Prop} (ht : Tryz.prog.underlying t = some (.slice e)) (hc : Tryz.prog.cellsOf e = sz) (hs : 0 < sz) (hf : ∀ y, (f y).length = sz)
    (helem : ∀ n cs x, DataW.trod enc Tryz.prog w b0 (fun _ => true) true n e cs = some x → ∃ y, cs = f y ∧ Good y) (h : DataW.trod enc Tryz.prog w b0 (fun _ => true) true fuel t cs = some x) :
    ∃ A l c, cs = [.slice A (List.length l) c] ∧ SlAt w (fun x => x < w.heap.size) sz (.slice A (List.length l) c) (l.flatMap f) ∧ ∀ y ∈ l, Good y := by
  rcases DataW.trod_slice ht h with ⟨rfl, _⟩ | ⟨a, len, cap, elems, rest, n, _, rfl, _, hb, hl, hm, hlen, hel, _, _⟩
  · exact ⟨none, [], 0, rfl, SlAt.nil _ _ _, by simp⟩
  · have hex : ∀ i, i < len → ∃ y : α, Good y ∧ ∀ j v, (f y)[j]? = some v → w.cell? ((a.add (i * sz)).add j) = some v := by
      intro i hi
      have h1 := hel i hi
      rw [List.getElem?_eq_getElem (by omega), hc, Option.bind_eq_some_iff] at h1
      obtain ⟨cs', h2, h3⟩ := h1
      obtain ⟨_, hl2, h4⟩ := World.cells?_some h2
      obtain ⟨y, rfl, hg⟩ := helem _ _ _ h3
      refine ⟨y, hg, fun j v hv => ?_⟩
      rw [h4 j (by have := (List.getElem?_eq_some_iff.1 hv).1; rw [hf] at this; exact this), hv]
    obtain ⟨l, hll, hlp⟩ := list_of _ len hex
    subst hll
    refine ⟨some a, l, cap, rfl, ⟨some a, _, cap, rfl, ⟨flat_len f sz hf l, by unfold maxLen at hm; omega, fun hpos => ?_⟩, fun a' ha' hpos => ?_, hl⟩, fun y hy => ?_⟩
    · obtain ⟨y0, hy0⟩ : ∃ y, l[0]? = some y := ⟨_, List.getElem?_eq_getElem hpos⟩
      have hc0 := (hlp 0 y0 hy0).2 0 _ (List.getElem?_eq_getElem (by rw [hf]; exact hs))
      obtain ⟨b, off, spot⟩ := a
      have hspot : spot = none := by simpa [Addr.add] using World.cell?_spot hc0
      subst hspot
      refine ⟨b, off, rfl, fun i v hv => ?_⟩
      have hi : i < l.length * sz := by have := (List.getElem?_eq_some_iff.1 hv).1; rwa [flat_len f sz hf] at this
      have hdm : i = i / sz * sz + i % sz := by have := Nat.div_add_mod i sz; rw [Nat.mul_comm]; omega
      rw [hdm, flat_get f sz hf hs l _ _ (Nat.mod_lt _ hs)] at hv
      cases hli : l[i / sz]? with
      | none => rw [hli] at hv; cases hv
      | some y =>
        rw [hli] at hv
        have := (hlp _ y hli).2 (i % sz) v hv
        rw [add_plain, add_plain] at this
        rw [show off + i = off + i / sz * sz + i % sz by omega]
        exact this
    · cases ha'
      obtain ⟨y0, hy0⟩ : ∃ y, l[0]? = some y := ⟨_, List.getElem?_eq_getElem hpos⟩
      have hc0 := (hlp 0 y0 hy0).2 0 _ (List.getElem?_eq_getElem (by rw [hf]; exact hs))
      have := World.block_lt_of_cell? _ _ hc0
      obtain ⟨b, off, spot⟩ := a
      have hspot : spot = none := by simpa [Addr.add] using World.cell?_spot hc0
      subst hspot
      rw [add_plain, add_plain] at this
      exact this
    · obtain ⟨i, hi⟩ := List.getElem?_of_mem hy
      exact (hlp i y hi).1
def i32ok (n : Int) : Prop := -2147483648 ≤ n ∧ n ≤ 2147483647
theorem trod_ints (h : DataW.trod enc Tryz.prog w b0 (fun _ => true) true fuel 49 cs = some x) : ∃ A l c, cs = [.slice A (List.length l) c] ∧ SlAt w (fun x => x < w.heap.size) 1 (.slice A (List.length l) c) (ints l) ∧ ∀ n ∈ l, i32ok n := by
  have := trod_sl (sz := 1) (f := fun n : Int => [Value.int .i32 n]) (Good := i32ok) Tryz.underlying49 (by kernel_rfl) (by omega) (fun _ => rfl) (fun n cs x h => by
    obtain ⟨k, rfl, _, hw⟩ := DataW.trod_int Tryz.underlying21 h
    refine ⟨k, rfl, ?_⟩
    simp [Lit.wf, IntKind.min, IntKind.max, IntKind.signed, IntKind.bits] at hw
    unfold i32ok
    omega) h
  simpa [ints, List.map_eq_flatMap] using this
theorem trod_strs (h : DataW.trod enc Tryz.prog w b0 (fun _ => true) true fuel 44 cs = some x) : ∃ A l c, cs = [.slice A (List.length l) c] ∧ SlAt w (fun x => x < w.heap.size) 1 (.slice A (List.length l) c) (strs l) ∧ ∀ s ∈ l, s.size ≤ maxLen := by
  have := trod_sl (sz := 1) (f := fun s : ByteArray => [Value.string s]) (Good := fun s => s.size ≤ maxLen) Tryz.underlying44 (by kernel_rfl) (by omega) (fun _ => rfl) (fun n cs x h => by
    obtain ⟨s, rfl, _, hw⟩ := DataW.trod_string Tryz.underlying9 h
    exact ⟨s, rfl, hw⟩) h
  simpa [strs, List.map_eq_flatMap] using this
theorem one_take {cs : List Value} {k n : Nat} (_hl : cs.length = n) (_hk : k < n) {v : Value} (h : (cs.drop k).take 1 = [v]) : cs[k]? = some v := by
  have h' := congrArg (fun l => l[0]?) h
  simpa [List.getElem?_take, List.getElem?_drop] using h'
/-- What is known of a share that came in. -/
structure ShGood (w : World) (p : Sh × Value) : Prop where
  mem : p.1.mem.size ≤ maxLen
  top : p.1.top.size ≤ maxLen
  parts : SlAt w (fun x => x < w.heap.size) 1 p.2 (ints p.1.parts)
  nums : ∀ n ∈ p.1.parts, i32ok n
theorem list3 {cs : List Value} {a b c : Value} (hl : cs.length = 3) (h0 : cs[0]? = some a) (h1 : cs[1]? = some b) (h2 : cs[2]? = some c) : cs = [a, b, c] := by
  match cs, hl with
  | [x, y, z], _ => simp at h0 h1 h2; rw [h0, h1, h2]
theorem trod_share (h : DataW.trod enc Tryz.prog w b0 (fun _ => true) true fuel 53 cs = some x) : ∃ p, cs = shCells p ∧ ShGood w p := by
  obtain ⟨xs, n, _, _, hl, hxl, hf⟩ := DataW.trod_struct Tryz.underlying53 h
  rw [show Tryz.prog.cellsOf 53 = 3 by kernel_rfl] at hl
  have c9 : Tryz.prog.cellsOf 9 = 1 := by kernel_rfl
  have c49 : Tryz.prog.cellsOf 49 = 1 := by kernel_rfl
  have h0 : DataW.trod enc Tryz.prog w b0 (fun _ => true) true n 9 ((cs.drop 0).take (Tryz.prog.cellsOf 9)) = xs[0]? := hf 0 _ rfl
  have h1 : DataW.trod enc Tryz.prog w b0 (fun _ => true) true n 9 ((cs.drop 1).take (Tryz.prog.cellsOf 9)) = xs[1]? := hf 1 _ rfl
  have h2 : DataW.trod enc Tryz.prog w b0 (fun _ => true) true n 49 ((cs.drop 2).take (Tryz.prog.cellsOf 49)) = xs[2]? := hf 2 _ rfl
  have hxl : xs.length = 3 := hxl
  rw [List.getElem?_eq_getElem (by omega)] at h0 h1 h2
  rw [c9] at h0 h1
  rw [c49] at h2
  obtain ⟨a, ea, _, ha⟩ := DataW.trod_string Tryz.underlying9 h0
  obtain ⟨b, eb, _, hb⟩ := DataW.trod_string Tryz.underlying9 h1
  obtain ⟨A, l, c, ec, hc, hn⟩ := trod_ints h2
  exact ⟨(⟨a, b, l⟩, .slice A l.length c), list3 hl (one_take hl (by omega) ea) (one_take hl (by omega) eb) (one_take hl (by omega) ec), ha, hb, hc, hn⟩
/-- Shares that came in. -/
structure ShsArg (w : World) (v : Value) (l : List (Sh × Value)) : Prop where
  at' : SlAt w (fun x => x < w.heap.size) 3 v (l.flatMap shCells)
  good : ∀ p ∈ l, ShGood w p
theorem ShsArg.shs {w : World} {v : Value} {l : List (Sh × Value)} (h : ShsArg w v l) : ShsAt w (fun x => x < w.heap.size) v (l.map Prod.fst) := ⟨l, rfl, h.at', fun p hp => (h.good p hp).parts⟩
theorem trod_shares (h : DataW.trod enc Tryz.prog w b0 (fun _ => true) true fuel 30 cs = some x) : ∃ A l c, cs = [.slice A (List.length l) c] ∧ ShsArg w (.slice A (List.length l) c) l := by
  obtain ⟨A, l, c, h1, h2, h3⟩ := trod_sl (sz := 3) Tryz.underlying30 (by kernel_rfl) (by omega) (fun p : Sh × Value => (rfl : (shCells p).length = 3)) (fun n cs x h => trod_share h) h
  exact ⟨A, l, c, h1, h2, h3⟩
/-- What is known of a member that came in. -/
structure MvGood (w : World) (m : MV) : Prop where
  id : m.id.size ≤ maxLen
  rack : m.rack.size ≤ maxLen
  tops : SlAt w (fun x => x < w.heap.size) 1 m.tv (strs m.tops)
  words : ∀ s ∈ m.tops, s.size ≤ maxLen
  data : ∃ A c, m.dv = .slice A m.dn c
  own : ∃ A c l, m.ov = .slice A m.on c ∧ ShsArg w m.ov l
theorem list8 {cs : List Value} {a b c d e f g h : Value} (hl : cs.length = 8) (h0 : cs[0]? = some a) (h1 : cs[1]? = some b) (h2 : cs[2]? = some c) (h3 : cs[3]? = some d) (h4 : cs[4]? = some e) (h5 : cs[5]? = some f) (h6 : cs[6]? = some g) (h7 : cs[7]? = some h) : cs = [a, b, c, d, e, f, g, h] := by
  match cs, hl with
  | [x0, x1, x2, x3, x4, x5, x6, x7], _ => simp at h0 h1 h2 h3 h4 h5 h6 h7; rw [h0, h1, h2, h3, h4, h5, h6, h7]
theorem trod_bytes (h : DataW.trod enc Tryz.prog w b0 (fun _ => true) true fuel 22 cs = some x) : ∃ A n c, cs = [.slice A n c] := by
  rcases DataW.trod_slice Tryz.underlying22 h with ⟨rfl, _⟩ | ⟨a, len, cap, elems, rest, n, _, rfl, _⟩
  · exact ⟨none, 0, 0, rfl⟩
  · exact ⟨some a, len, cap, rfl⟩
set_option maxRecDepth 100000 in
theorem trod_member (h : DataW.trod enc Tryz.prog w b0 (fun _ => true) true fuel 46 cs = some x) : ∃ m, cs = mvCells m ∧ MvGood w m := by
  obtain ⟨xs, n, _, _, hl, hxl, hf⟩ := DataW.trod_struct Tryz.underlying46 h
  rw [show Tryz.prog.cellsOf 46 = 8 by kernel_rfl] at hl
  have c9 : Tryz.prog.cellsOf 9 = 1 := by kernel_rfl
  have c43 : Tryz.prog.cellsOf 43 = 1 := by kernel_rfl
  have c44 : Tryz.prog.cellsOf 44 = 1 := by kernel_rfl
  have c22 : Tryz.prog.cellsOf 22 = 1 := by kernel_rfl
  have c30 : Tryz.prog.cellsOf 30 = 1 := by kernel_rfl
  have c21 : Tryz.prog.cellsOf 21 = 1 := by kernel_rfl
  have c4 : Tryz.prog.cellsOf 4 = 1 := by kernel_rfl
  have h0 : DataW.trod enc Tryz.prog w b0 (fun _ => true) true n 9 ((cs.drop 0).take (Tryz.prog.cellsOf 9)) = xs[0]? := hf 0 _ rfl
  have h1 : DataW.trod enc Tryz.prog w b0 (fun _ => true) true n 43 ((cs.drop 1).take (Tryz.prog.cellsOf 43)) = xs[1]? := hf 1 _ rfl
  have h2 : DataW.trod enc Tryz.prog w b0 (fun _ => true) true n 44 ((cs.drop 2).take (Tryz.prog.cellsOf 44)) = xs[2]? := hf 2 _ rfl
  have h3 : DataW.trod enc Tryz.prog w b0 (fun _ => true) true n 22 ((cs.drop 3).take (Tryz.prog.cellsOf 22)) = xs[3]? := hf 3 _ rfl
  have h4 : DataW.trod enc Tryz.prog w b0 (fun _ => true) true n 30 ((cs.drop 4).take (Tryz.prog.cellsOf 30)) = xs[4]? := hf 4 _ rfl
  have h5 : DataW.trod enc Tryz.prog w b0 (fun _ => true) true n 21 ((cs.drop 5).take (Tryz.prog.cellsOf 21)) = xs[5]? := hf 5 _ rfl
  have h6 : DataW.trod enc Tryz.prog w b0 (fun _ => true) true n 9 ((cs.drop 6).take (Tryz.prog.cellsOf 9)) = xs[6]? := hf 6 _ rfl
  have h7 : DataW.trod enc Tryz.prog w b0 (fun _ => true) true n 4 ((cs.drop 7).take (Tryz.prog.cellsOf 4)) = xs[7]? := hf 7 _ rfl
  have hxl : xs.length = 8 := hxl
  rw [List.getElem?_eq_getElem (by omega)] at h0 h1 h2 h3 h4 h5 h6 h7
  rw [c9] at h0 h6
  rw [c43] at h1
  rw [c44] at h2
  rw [c22] at h3
  rw [c30] at h4
  rw [c21] at h5
  rw [c4] at h7
  obtain ⟨id, e0, _, hid⟩ := DataW.trod_string Tryz.underlying9 h0
  obtain ⟨ver, e1, _, _⟩ := DataW.trod_int Tryz.underlying43 h1
  obtain ⟨A2, tops, n2, e2, ht, hw⟩ := trod_strs h2
  obtain ⟨A3, dn, n3, e3⟩ := trod_bytes h3
  obtain ⟨A4, ol, n4, e4, ho⟩ := trod_shares h4
  obtain ⟨gen, e5, _, _⟩ := DataW.trod_int Tryz.underlying21 h5
  obtain ⟨rack, e6, _, hrack⟩ := DataW.trod_string Tryz.underlying9 h6
  obtain ⟨hr, e7, _⟩ := DataW.trod_bool Tryz.underlying4 h7
  refine ⟨{ id := id, ver := ver, tops := tops, tv := .slice A2 tops.length n2, dv := .slice A3 dn n3, dn := dn, ov := .slice A4 ol.length n4, on := ol.length, gen := gen, rack := rack, hr := hr },
    list8 hl (one_take hl (by omega) e0) (one_take hl (by omega) e1) (one_take hl (by omega) e2) (one_take hl (by omega) e3) (one_take hl (by omega) e4) (one_take hl (by omega) e5) (one_take hl (by omega) e6) (one_take hl (by omega) e7),
    hid, hrack, ht, hw, ⟨_, _, rfl⟩, ⟨_, _, ol, rfl, ho⟩⟩
/-- Members that came in. -/
structure MemsArg (w : World) (v : Value) (l : List MV) : Prop where
  at' : SlAt w (fun x => x < w.heap.size) 8 v (l.flatMap mvCells)
  good : ∀ m ∈ l, MvGood w m
theorem MemsArg.mems {w : World} {v : Value} {l : List MV} (h : MemsArg w v l) : MemsAt w (fun x => x < w.heap.size) v l :=
  ⟨h.at', fun m hm => ⟨(h.good m hm).tops, (h.good m hm).data, by obtain ⟨A, c, _, h1, _⟩ := (h.good m hm).own; exact ⟨A, c, h1⟩⟩⟩
theorem trod_members (h : DataW.trod enc Tryz.prog w b0 (fun _ => true) true fuel 29 cs = some x) : ∃ A l c, cs = [.slice A (List.length l) c] ∧ MemsArg w (.slice A (List.length l) c) l := by
  obtain ⟨A, l, c, h1, h2, h3⟩ := trod_sl (sz := 8) Tryz.underlying29 (by kernel_rfl) (by omega) (fun p : MV => (rfl : (mvCells p).length = 8)) (fun n cs x h => trod_member h) h
  exact ⟨A, l, c, h1, h2, h3⟩
end
theorem cells_slice {v : Value} {A : Option Addr} {n c : Nat} {a : Option Addr} {m k : Nat} (hv : v = .slice a m k) (h : v.cells.toList = [.slice A n c]) : v = .slice A n c := by
  subst hv
  simpa [Value.cells] using h
set_option maxRecDepth 100000 in
theorem arg_members {H : Type} {enc : TypeId × Value → H} {W : World} {base b0 : Nat} {v : Value} {d : DataW H} {ps : List MemPlace} (hv : Value.okWide Tryz.prog W .any base 29 v) (h : DataW.Trod enc Tryz.prog W b0 (fun _ => true) true 29 v d ps) :
    ∃ A l c, v = .slice A (List.length l) c ∧ MemsArg W (.slice A (List.length l) c) l := by
  obtain ⟨a0, len, cap, hv0⟩ := okWide_slice Tryz.underlying29 hv
  obtain ⟨fuel, hf⟩ := h
  obtain ⟨A, l, c, h1, h2⟩ := trod_members hf
  exact ⟨A, l, c, cells_slice hv0 h1, h2⟩
set_option maxRecDepth 100000 in
theorem arg_shares {H : Type} {enc : TypeId × Value → H} {W : World} {base b0 : Nat} {v : Value} {d : DataW H} {ps : List MemPlace} (hv : Value.okWide Tryz.prog W .any base 30 v) (h : DataW.Trod enc Tryz.prog W b0 (fun _ => true) true 30 v d ps) :
    ∃ A l c, v = .slice A (List.length l) c ∧ ShsArg W (.slice A (List.length l) c) l := by
  obtain ⟨a0, len, cap, hv0⟩ := okWide_slice Tryz.underlying30 hv
  obtain ⟨fuel, hf⟩ := h
  obtain ⟨A, l, c, h1, h2⟩ := trod_shares hf
  exact ⟨A, l, c, cells_slice hv0 h1, h2⟩
end Go.Proofs.YtghgffhcdnmpnaaGreat
