/-
  How lists of members and of shares that come in are read: what their memory holds. Conditions: none.
-/
import Derived.Test.YtghgffhcdnmpnaaGreatZD0
import Derived.Test.YtghgffhcdnmpnaaGreatZC15
import Derived.Deep.QuietTactic
import Derived.BigQuiet
import Derived.WalkLawsBesides
import Derived.Test.YtghgffhcdnmpnaaGreatZC17
namespace Go.Proofs.YtghgffhcdnmpnaaGreat
open Go.ChangeShapes Go.WideShapes Go.ChangeAt Go.RowKit

theorem list_of {α : Type} (P : Nat → α → Prop) : ∀ n, (∀ i, i < n → ∃ x, P i x) → ∃ l : List α, l.length = n ∧ ∀ i x, l[i]? = some x → P i x
  | 0, _ => ⟨[], rfl, by simp⟩
  | n + 1, h => by
    obtain ⟨l, hl, hp⟩ := list_of P n (fun i hi => h i (by omega))
    obtain ⟨x, hx⟩ := h n (by omega)
    refine ⟨l ++ [x], by simp [hl], fun i y hy => ?_⟩
    rcases Nat.lt_or_ge i n with hi | hi
    · rw [List.getElem?_append_left (by omega)] at hy
      exact hp i y hy
    · rw [List.getElem?_append_right (by omega), hl] at hy
      have hi0 : i - n = 0 := by
        rcases Nat.eq_zero_or_pos (i - n) with h0 | h0
        · exact h0
        · rw [List.getElem?_eq_none (by simp; omega)] at hy; cases hy
      rw [hi0] at hy
      have : y = x := by simpa using hy.symm
      rw [this, show i = n by omega]
      exact hx
section
variable {H : Type} {enc : TypeId × Value → H} {w : World} {b0 fuel : Nat} {cs : List Value} {x : DataW H × List MemPlace}
/-- A slice that is read, its elements read one by one. -/
theorem trod_sl {t e : TypeId} {sz : Nat} {α : Type} {f : α → List Value} {Good : α → Prop} (ht : Tryz.prog.underlying t = some (.slice e)) (hc : Tryz.prog.cellsOf e = sz) (hs : 0 < sz) (hf : ∀ y, (f y).length = sz)
    (helem : ∀ n cs x, DataW.trod enc Tryz.prog w b0 (fun _ => true) true n e cs = some x → ∃ y, cs = f y ∧ Good y) (h : DataW.trod enc Tryz.prog w b0 (fun _ => true) true fuel t cs = some x) :
    ∃ A l c, cs = [.slice A (List.length l) c] ∧ SlAt w (fun x => x < w.heap.size) sz (.slice A (List.length l) c) (l.flatMap f) ∧ ∀ y ∈ l, Good y := by
  rcases DataW.trod_slice ht h with ⟨rfl, _⟩ | ⟨a, len, cap, elems, rest, n, _, rfl, _, hb, hl, hm, hlen, hel, _, _⟩
  · exact ⟨none, [], 0, rfl, SlAt.nil _ _ _, by simp⟩
  · have hex : ∀ i, i < len → ∃ y : α, Good y ∧ ∀ j v, (f y)[j]? = some v → w.cell? ((a.add (i * sz)).add j) = some v := by
      intro i hi
      have h1 := hel i hi
      rw [List.getElem?_eq_getElem (by omega), hc, Option.bind_eq_some_iff] at h1
      obtain ⟨cs', h2, h3⟩ := h1
      obtain ⟨_, hl2, h4⟩ := World.cells?_some h2
      obtain ⟨y, rfl, hg⟩ := helem _ _ _ h3
      refine ⟨y, hg, fun j v hv => ?_⟩
      rw [h4 j (by have := (List.getElem?_eq_some_iff.1 hv).1; rw [hf] at this; exact this), hv]
    obtain ⟨l, hll, hlp⟩ := list_of _ len hex
    subst hll
    refine ⟨some a, l, cap, rfl, ⟨some a, _, cap, rfl, ⟨flat_len f sz hf l, by unfold maxLen at hm; omega, fun hpos => ?_⟩, fun a' ha' hpos => ?_, hl⟩, fun y hy => ?_⟩
    · obtain ⟨y0, hy0⟩ : ∃ y, l[0]? = some y := ⟨_, List.getElem?_eq_getElem hpos⟩
      have hc0 := (hlp 0 y0 hy0).2 0 _ (List.getElem?_eq_getElem (by rw [hf]; exact hs))
      obtain ⟨b, off, spot⟩ := a
      have hspot : spot = none := by simpa [Addr.add] using World.cell?_spot hc0
      subst hspot
      refine ⟨b, off, rfl, fun i v hv => ?_⟩
      have hi : i < l.length * sz := by have := (List.getElem?_eq_some_iff.1 hv).1; rwa [flat_len f sz hf] at this
      have hdm : i = i / sz * sz + i % sz := by have := Nat.div_add_mod i sz; rw [Nat.mul_comm]; omega
      rw [hdm, flat_get f sz hf hs l _ _ (Nat.mod_lt _ hs)] at hv
      cases hli : l[i / sz]? with
      | none => rw [hli] at hv; cases hv
      | some y =>
        rw [hli] at hv
        have := (hlp _ y hli).2 (i % sz) v hv
        rw [add_plain, add_plain] at this
        rw [show off + i = off + i / sz * sz + i % sz by omega]
        exact this
    · cases ha'
      obtain ⟨y0, hy0⟩ : ∃ y, l[0]? = some y := ⟨_, List.getElem?_eq_getElem hpos⟩
      have hc0 := (hlp 0 y0 hy0).2 0 _ (List.getElem?_eq_getElem (by rw [hf]; exact hs))
      have := World.block_lt_of_cell? _ _ hc0
      obtain ⟨b, off, spot⟩ := a
      have hspot : spot = none := by simpa [Addr.add] using World.cell?_spot hc0
      subst hspot
      rw [add_plain, add_plain] at this
      exact this
    · obtain ⟨i, hi⟩ := List.getElem?_of_mem hy
      exact (hlp i y hi).1
def i32ok (n : Int) : Prop := -2147483648 ≤ n ∧ n ≤ 2147483647
theorem trod_ints (h : DataW.trod enc Tryz.prog w b0 (fun _ => true) true fuel 49 cs = some x) : ∃ A l c, cs = [.slice A (List.length l) c] ∧ SlAt w (fun x => x < w.heap.size) 1 (.slice A (List.length l) c) (ints l) ∧ ∀ n ∈ l, i32ok n := by
  have := trod_sl (sz := 1) (f := fun n : Int => [Value.int .i32 n]) (Good := i32ok) Tryz.underlying49 (by kernel_rfl) (by omega) (fun _ => rfl) (fun n cs x h => by
    obtain ⟨k, rfl, _, hw⟩ := DataW.trod_int Tryz.underlying21 h
    refine ⟨k, rfl, ?_⟩
    simp [Lit.wf, IntKind.min, IntKind.max, IntKind.signed, IntKind.bits] at hw
    unfold i32ok
    omega) h
  simpa [ints, List.map_eq_flatMap] using this
theorem trod_strs (h : DataW.trod enc Tryz.prog w b0 (fun _ => true) true fuel 44 cs = some x) : ∃ A l c, cs = [.slice A (List.length l) c] ∧ SlAt w (fun x => x < w.heap.size) 1 (.slice A (List.length l) c) (strs l) ∧ ∀ s ∈ l, s.size ≤ maxLen := by
  have := trod_sl (sz := 1) (f := fun s : ByteArray => [Value.string s]) (Good := fun s => s.size ≤ maxLen) Tryz.underlying44 (by kernel_rfl) (by omega) (fun _ => rfl) (fun n cs x h => by
    obtain ⟨s, rfl, _, hw⟩ := DataW.trod_string Tryz.underlying9 h
    exact ⟨s, rfl, hw⟩) h
  simpa [strs, List.map_eq_flatMap] using this
theorem one_take {cs : List Value} {k n : Nat} (_hl : cs.length = n) (_hk : k < n) {v : Value} (h : (cs.drop k).take 1 = [v]) : cs[k]? = some v := by
  have h' := congrArg (fun l => l[0]?) h
  simpa [List.getElem?_take, List.getElem?_drop] using h'
/-- What is known of a share that came in. -/
structure ShGood (w : World) (p : Sh × Value) : Prop where
  mem : p.1.mem.size ≤ maxLen
  top : p.1.top.size ≤ maxLen
  parts : SlAt w (fun x => x < w.heap.size) 1 p.2 (ints p.1.parts)
  nums : ∀ n ∈ p.1.parts, i32ok n
theorem list3 {cs : List Value} {a b c : Value} (hl : cs.length = 3) (h0 : cs[0]? = some a) (h1 : cs[1]? = some b) (h2 : cs[2]? = some c) : cs = [a, b, c] := by
  match cs, hl with
  | [x, y, z], _ => simp at h0 h1 h2; rw [h0, h1, h2]
theorem trod_share (h : DataW.trod enc Tryz.prog w b0 (fun _ => true) true fuel 53 cs = some x) : ∃ p, cs = shCells p ∧ ShGood w p := by
  obtain ⟨xs, n, _, _, hl, hxl, hf⟩ := DataW.trod_struct Tryz.underlying53 h
  rw [show Tryz.prog.cellsOf 53 = 3 by kernel_rfl] at hl
  have c9 : Tryz.prog.cellsOf 9 = 1 := by kernel_rfl
  have c49 : Tryz.prog.cellsOf 49 = 1 := by kernel_rfl
  have h0 : DataW.trod enc Tryz.prog w b0 (fun _ => true) true n 9 ((cs.drop 0).take (Tryz.prog.cellsOf 9)) = xs[0]? := hf 0 _ rfl
  have h1 : DataW.trod enc Tryz.prog w b0 (fun _ => true) true n 9 ((cs.drop 1).take (Tryz.prog.cellsOf 9)) = xs[1]? := hf 1 _ rfl
  have h2 : DataW.trod enc Tryz.prog w b0 (fun _ => true) true n 49 ((cs.drop 2).take (Tryz.prog.cellsOf 49)) = xs[2]? := hf 2 _ rfl
  have hxl : xs.length = 3 := hxl
  rw [List.getElem?_eq_getElem (by omega)] at h0 h1 h2
  rw [c9] at h0 h1
  rw [c49] at h2
  obtain ⟨a, ea, _, ha⟩ := DataW.trod_string Tryz.underlying9 h0
  obtain ⟨b, eb, _, hb⟩ := DataW.trod_string Tryz.underlying9 h1
  obtain ⟨A, l, c, ec, hc, hn⟩ := trod_ints h2
  exact ⟨(⟨a, b, l⟩, .slice A l.length c), list3 hl (one_take hl (by omega) ea) (one_take hl (by omega) eb) (one_take hl (by omega) ec), ha, hb, hc, hn⟩
/-- Shares that came in. -/
structure ShsArg (w : World) (v : Value) (l : List (Sh × Value)) : Prop where
  at' : SlAt w (fun x => x < w.heap.size) 3 v (l.flatMap shCells)
  good : ∀ p ∈ l, ShGood w p
theorem ShsArg.shs {w : World} {v : Value} {l : List (Sh × Value)} (h : ShsArg w v l) : ShsAt w (fun x => x < w.heap.size) v (l.map Prod.fst) := ⟨l, rfl, h.at', fun p hp => (h.good p hp).parts⟩
theorem trod_shares (h : DataW.trod enc Tryz.prog w b0 (fun _ => true) true fuel 30 cs = some x) : ∃ A l c, cs = [.slice A (List.length l) c] ∧ ShsArg w (.slice A (List.length l) c) l := by
  obtain ⟨A, l, c, h1, h2, h3⟩ := trod_sl (sz := 3) Tryz.underlying30 (by kernel_rfl) (by omega) (fun p : Sh × Value => (rfl : (shCells p).length = 3)) (fun n cs x h => trod_share h) h
  exact ⟨A, l, c, h1, h2, h3⟩
/-- What is known of a member that came in. -/
structure MvGood (w : World) (m : MV) : Prop where
  id : m.id.size ≤ maxLen
  rack : m.rack.size ≤ maxLen
  tops : SlAt w (fun x => x < w.heap.size) 1 m.tv (strs m.tops)
  words : ∀ s ∈ m.tops, s.size ≤ maxLen
  data : ∃ A c, m.dv = .slice A m.dn c
  own : ∃ A c l, m.ov = .slice A m.on c ∧ ShsArg w m.ov l
theorem list8 {cs : List Value} {a b c d e f g h : Value} (hl : cs.length = 8) (h0 : cs[0]? = some a) (h1 : cs[1]? = some b) (h2 : cs[2]? = some c) (h3 : cs[3]? = some d) (h4 : cs[4]? = some e) (h5 : cs[5]? = some f) (h6 : cs[6]? = some g) (h7 : cs[7]? = some h) : cs = [a, b, c, d, e, f, g, h] := by
  match cs, hl with
  | [x0, x1, x2, x3, x4, x5, x6, x7], _ => simp at h0 h1 h2 h3 h4 h5 h6 h7; rw [h0, h1, h2, h3, h4, h5, h6, h7]
theorem trod_bytes (h : DataW.trod enc Tryz.prog w b0 (fun _ => true) true fuel 22 cs = some x) : ∃ A n c, cs = [.slice A n c] := by
  rcases DataW.trod_slice Tryz.underlying22 h with ⟨rfl, _⟩ | ⟨a, len, cap, elems, rest, n, _, rfl, _⟩
  · exact ⟨none, 0, 0, rfl⟩
  · exact ⟨some a, len, cap, rfl⟩
set_option maxRecDepth 100000 in
theorem trod_member (h : DataW.trod enc Tryz.prog w b0 (fun _ => true) true fuel 46 cs = some x) : ∃ m, cs = mvCells m ∧ MvGood w m := by
  obtain ⟨xs, n, _, _, hl, hxl, hf⟩ := DataW.trod_struct Tryz.underlying46 h
  rw [show Tryz.prog.cellsOf 46 = 8 by kernel_rfl] at hl
  have c9 : Tryz.prog.cellsOf 9 = 1 := by kernel_rfl
  have c43 : Tryz.prog.cellsOf 43 = 1 := by kernel_rfl
  have c44 : Tryz.prog.cellsOf 44 = 1 := by kernel_rfl
  have c22 : Tryz.prog.cellsOf 22 = 1 := by kernel_rfl
  have c30 : Tryz.prog.cellsOf 30 = 1 := by kernel_rfl
  have c21 : Tryz.prog.cellsOf 21 = 1 := by kernel_rfl
  have c4 : Tryz.prog.cellsOf 4 = 1 := by kernel_rfl
  have h0 : DataW.trod enc Tryz.prog w b0 (fun _ => true) true n 9 ((cs.drop 0).take (Tryz.prog.cellsOf 9)) = xs[0]? := hf 0 _ rfl
  have h1 : DataW.trod enc Tryz.prog w b0 (fun _ => true) true n 43 ((cs.drop 1).take (Tryz.prog.cellsOf 43)) = xs[1]? := hf 1 _ rfl
  have h2 : DataW.trod enc Tryz.prog w b0 (fun _ => true) true n 44 ((cs.drop 2).take (Tryz.prog.cellsOf 44)) = xs[2]? := hf 2 _ rfl
  have h3 : DataW.trod enc Tryz.prog w b0 (fun _ => true) true n 22 ((cs.drop 3).take (Tryz.prog.cellsOf 22)) = xs[3]? := hf 3 _ rfl
  have h4 : DataW.trod enc Tryz.prog w b0 (fun _ => true) true n 30 ((cs.drop 4).take (Tryz.prog.cellsOf 30)) = xs[4]? := hf 4 _ rfl
  have h5 : DataW.trod enc Tryz.prog w b0 (fun _ => true) true n 21 ((cs.drop 5).take (Tryz.prog.cellsOf 21)) = xs[5]? := hf 5 _ rfl
  have h6 : DataW.trod enc Tryz.prog w b0 (fun _ => true) true n 9 ((cs.drop 6).take (Tryz.prog.cellsOf 9)) = xs[6]? := hf 6 _ rfl
  have h7 : DataW.trod enc Tryz.prog w b0 (fun _ => true) true n 4 ((cs.drop 7).take (Tryz.prog.cellsOf 4)) = xs[7]? := hf 7 _ rfl
  have hxl : xs.length = 8 := hxl
  rw [List.getElem?_eq_getElem (by omega)] at h0 h1 h2 h3 h4 h5 h6 h7
  rw [c9] at h0 h6
  rw [c43] at h1
  rw [c44] at h2
  rw [c22] at h3
  rw [c30] at h4
  rw [c21] at h5
  rw [c4] at h7
  obtain ⟨id, e0, _, hid⟩ := DataW.trod_string Tryz.underlying9 h0
  obtain ⟨ver, e1, _, _⟩ := DataW.trod_int Tryz.underlying43 h1
  obtain ⟨A2, tops, n2, e2, ht, hw⟩ := trod_strs h2
  obtain ⟨A3, dn, n3, e3⟩ := trod_bytes h3
  obtain ⟨A4, ol, n4, e4, ho⟩ := trod_shares h4
  obtain ⟨gen, e5, _, _⟩ := DataW.trod_int Tryz.underlying21 h5
  obtain ⟨rack, e6, _, hrack⟩ := DataW.trod_string Tryz.underlying9 h6
  obtain ⟨hr, e7, _⟩ := DataW.trod_bool Tryz.underlying4 h7
  refine ⟨{ id := id, ver := ver, tops := tops, tv := .slice A2 tops.length n2, dv := .slice A3 dn n3, dn := dn, ov := .slice A4 ol.length n4, on := ol.length, gen := gen, rack := rack, hr := hr },
    list8 hl (one_take hl (by omega) e0) (one_take hl (by omega) e1) (one_take hl (by omega) e2) (one_take hl (by omega) e3) (one_take hl (by omega) e4) (one_take hl (by omega) e5) (one_take hl (by omega) e6) (one_take hl (by omega) e7),
    hid, hrack, ht, hw, ⟨_, _, rfl⟩, ⟨_, _, ol, rfl, ho⟩⟩
/-- Members that came in. -/
structure MemsArg (w : World) (v : Value) (l : List MV) : Prop where
  at' : SlAt w (fun x => x < w.heap.size) 8 v (l.flatMap mvCells)
  good : ∀ m ∈ l, MvGood w m
theorem MemsArg.mems {w : World} {v : Value} {l : List MV} (h : MemsArg w v l) : MemsAt w (fun x => x < w.heap.size) v l :=
  ⟨h.at', fun m hm => ⟨(h.good m hm).tops, (h.good m hm).data, by obtain ⟨A, c, _, h1, _⟩ := (h.good m hm).own; exact ⟨A, c, h1⟩⟩⟩
theorem trod_members (h : DataW.trod enc Tryz.prog w b0 (fun _ => true) true fuel 29 cs = some x) : ∃ A l c, cs = [.slice A (List.length l) c] ∧ MemsArg w (.slice A (List.length l) c) l := by
  obtain ⟨A, l, c, h1, h2, h3⟩ := trod_sl (sz := 8) Tryz.underlying29 (by kernel_rfl) (by omega) (fun p : MV => (rfl : (mvCells p).length = 8)) (fun n cs x h => trod_member h) h
  exact ⟨A, l, c, h1, h2, h3⟩
end
theorem cells_slice {v : Value} {A : Option Addr} {n c : Nat} {a : Option Addr} {m k : Nat} (hv : v = .slice a m k) (h : v.cells.toList = [.slice A n c]) : v = .slice A n c := by
  subst hv
  simpa [Value.cells] using h
set_option maxRecDepth 100000 in
theorem arg_members {H : Type} {enc : TypeId × Value → H} {W : World} {base b0 : Nat} {v : Value} {d : DataW H} {ps : List MemPlace} (hv : Value.okWide Tryz.prog W .any base 29 v) (h : DataW.Trod enc Tryz.prog W b0 (fun _ => true) true 29 v d ps) :
    ∃ A l c, v = .slice A (List.length l) c ∧ MemsArg W (.slice A (List.length l) c) l := by
  obtain ⟨a0, len, cap, hv0⟩ := okWide_slice Tryz.underlying29 hv
  obtain ⟨fuel, hf⟩ := h
  obtain ⟨A, l, c, h1, h2⟩ := trod_members hf
  exact ⟨A, l, c, cells_slice hv0 h1, h2⟩
set_option maxRecDepth 100000 in
theorem arg_shares {H : Type} {enc : TypeId × Value → H} {W : World} {base b0 : Nat} {v : Value} {d : DataW H} {ps : List MemPlace} (hv : Value.okWide Tryz.prog W .any base 30 v) (h : DataW.Trod enc Tryz.prog W b0 (fun _ => true) true 30 v d ps) :
    ∃ A l c, v = .slice A (List.length l) c ∧ ShsArg W (.slice A (List.length l) c) l := by
  obtain ⟨a0, len, cap, hv0⟩ := okWide_slice Tryz.underlying30 hv
  obtain ⟨fuel, hf⟩ := h
  obtain ⟨A, l, c, h1, h2⟩ := trod_shares hf
  exact ⟨A, l, c, cells_slice hv0 h1, h2⟩
end Go.Proofs.YtghgffhcdnmpnaaGreat
/-
  Small functions of the laws and the specification: word, wants, the bounds on sizes. Conditions: texts and lists fit the model's room.
-/
namespace Go.Proofs.YtghgffhcdnmpnaaGreat
open Go.RowKit Go.Sort
theorem ret_bool {a b : Bool} (h : a = b) : Ending.returned (.bool a) = .returned (.bool b) := by rw [h]
/-! ### Texts -/
def letter (c : UInt8) : Bool := decide (97 ≤ (c.toNat : Int)) && decide ((c.toNat : Int) ≤ 122)
def wordB (s : ByteArray) : Bool := s.data.toList.all letter && decide (0 < s.size) && decide (s.size ≤ 20)
theorem all_take (p : UInt8 → Bool) (s : ByteArray) (k : Nat) (h : k < s.size) : (s.data.toList.take (k + 1)).all p = ((s.data.toList.take k).all p && p s[k]) := by
  rw [List.take_succ_eq_append_getElem (by simpa using h), List.all_append]
  simp
  rfl
theorem all_false {p : UInt8 → Bool} {s : ByteArray} {k : Nat} (h : k < s.size) (hp : p s[k] = false) : s.data.toList.all p = false := by
  rw [List.all_eq_false]
  exact ⟨s[k], by rw [Array.mem_toList_iff]; exact Array.getElem_mem (xs := s.data) h, by simp [hp]⟩
theorem word_any (s : ByteArray) (w : World) (hs : s.size ≤ maxLen) : Calls Tryz.prog 38 #[.string s] w fun e w' => e = .returned (.bool (wordB s)) ∧ w = w' := by
  unfold maxLen at hs
  go_enter Tryz.func38, Tryz.ntmps38
  go_wp2
  go_loop [3] (fun i => ∃ k : Nat, k ≤ s.size ∧ i = .int .i64 k ∧ (s.data.toList.take k).all letter = true) (fun i => s.size - (intOf i).toNat)
  case atStart => exact ⟨0, Nat.zero_le _, rfl, rfl⟩
  case round =>
    obtain ⟨k, hk, rfl, hall⟩ := hrel
    have HALL := Lib.hid hall
    clear hall
    by_cases hlt : k < s.size
    · by_cases h1 : 97 ≤ (s[k].toNat : Int)
      · by_cases h2 : (s[k].toNat : Int) ≤ 122
        · go_wp2
          go_round
          case rel => exact ⟨k + 1, by omega, by go_num, by rw [all_take _ _ _ hlt, HALL.out]; simp [letter, h1, h2]⟩
          case measure => simp [intOf]; omega
        · have HF := Lib.hid (all_false (p := letter) hlt (by simp [letter, h2]))
          go_wp2
          go_ret
          exact ⟨ret_bool (by rw [wordB, HF.out]; rfl), rfl⟩
      · have HF := Lib.hid (all_false (p := letter) hlt (by simp [letter, h1]))
        go_wp2
        go_ret
        exact ⟨ret_bool (by rw [wordB, HF.out]; rfl), rfl⟩
    · have hf : s.data.toList.all letter = true := by
        have := HALL.out
        rwa [List.take_of_length_le (by simp; omega)] at this
      by_cases h1 : 0 < s.size
      · by_cases h2 : s.size ≤ 20
        · have HF := Lib.hid (show wordB s = true by rw [wordB, hf]; simp [h1, h2])
          have h3 : (s.size : Int) ≤ 20 := by omega
          have hd := decide_eq_true h3
          clear hf
          go_wp2
          go_ret
          exact ⟨ret_bool HF.out.symm, rfl⟩
        · have HF := Lib.hid (show wordB s = false by rw [wordB, hf]; simp [h2])
          have h3 : ¬ (s.size : Int) ≤ 20 := by omega
          have hd := decide_eq_false h3
          clear hf
          go_wp2
          go_ret
          exact ⟨ret_bool HF.out.symm, rfl⟩
      · have HF := Lib.hid (show wordB s = false by rw [wordB, hf]; simp [h1])
        clear hf
        go_wp2
        go_ret
        exact ⟨ret_bool HF.out.symm, rfl⟩
end Go.Proofs.YtghgffhcdnmpnaaGreat
/-
  wants: whether a member has subscribed to a topic; the bounds on sizes (zzFits..), whatever they say. Conditions: none.
-/
namespace Go.Proofs.YtghgffhcdnmpnaaGreat
open Go.RowKit Go.Sort
theorem strs_get {l : List ByteArray} {k : Nat} {y : ByteArray} (h : l[k]? = some y) : (strs l)[k]? = some (.string y) := by simp [strs, h]
theorem beq_ne {a b : ByteArray} (h : a ≠ b) : (a.toList == b.toList) = false := by
  rw [ByteArray.toList_eq, ByteArray.toList_eq]
  rw [beq_eq_false_iff_ne]
  exact fun e => h (bytes_ext e)
set_option maxHeartbeats 400000 in
theorem wants_any (id rack t : ByteArray) (ver gen : Int) (A : Option Addr) (c : Nat) (tops : List ByteArray) (dv ov : Value) (hr : Bool) (w : World) (h : SlIs w 1 A tops.length (strs tops)) :
    Calls Tryz.prog 39 #[.agg #[.string id, .int .i16 ver, .slice A tops.length c, dv, ov, .int .i32 gen, .string rack, .bool hr], .string t] w fun e w' => e = .returned (.bool (decide (t ∈ tops))) ∧ Kept [] w w' := by
  have h63 := h.2.1
  have HS := Lib.hid h
  clear h
  go_enter Tryz.func39, Tryz.ntmps39
  go_wp2
  go_loop [5] (fun i => ∃ k : Nat, k ≤ tops.length ∧ i = .int .i64 k ∧ t ∉ tops.take k) (fun i => tops.length - (intOf i).toNat)
  case atStart => exact ⟨0, Nat.zero_le _, rfl, by simp⟩
  case round =>
    obtain ⟨k, hk, rfl, hn⟩ := hrel
    have HN := Lib.hid hn
    clear hn
    by_cases hlt : k < tops.length
    · obtain ⟨b, off, rfl, hcc⟩ := HS.out.2.2 (by omega)
      obtain ⟨y, hy⟩ : ∃ y, tops[k]? = some y := ⟨_, List.getElem?_eq_getElem hlt⟩
      have hcell := hcc k _ (strs_get hy)
      have hbl : b < w.heap.size := World.block_lt_of_cell? _ _ hcell
      have HY := Lib.hid hy
      clear hcc hy
      by_cases he : y = t
      · subst he
        go_wp2
        go_ret
        exact ⟨ret_bool (by rw [decide_eq_true (List.mem_of_getElem? HY.out)]), (Kept.refl _ _).alloc _⟩
      · have hbe := beq_ne he
        have HE := Lib.hid he
        clear he
        go_wp2
        go_round
        case rel =>
          refine ⟨k + 1, by omega, by go_num, ?_⟩
          rw [take_one HY.out, List.mem_append, List.mem_singleton]
          rintro (h | h)
          · exact HN.out h
          · exact HE.out h.symm
        case measure => simp [intOf]; omega
    · go_wp2
      go_ret
      have h := HN.out
      rw [List.take_of_length_le (by omega)] at h
      exact ⟨ret_bool (by rw [decide_eq_false h]), (Kept.refl _ _).alloc _⟩
/-! ### Sizes -/
def SomeB (w : World) (e : Ending) (w' : World) : Prop := ∃ b : Bool, e = .returned (.bool b) ∧ Kept [] w w'
theorem fits4_any (A : Option Addr) (c : Nat) (l : List ByteArray) (w : World) (h : SlIs w 1 A l.length (strs l)) : Calls Tryz.prog 58 #[.slice A l.length c] w (SomeB w) := by
  have h63 := h.2.1
  have HS := Lib.hid h
  clear h
  go_enter Tryz.func58, Tryz.ntmps58
  go_wp2
  · go_ret
    exact ⟨_, rfl, Kept.refl _ _⟩
  · go_loop [10] (fun i => ∃ k : Nat, k ≤ l.length ∧ i = .int .i64 k) (fun i => l.length - (intOf i).toNat)
    case atStart => exact ⟨0, Nat.zero_le _, rfl⟩
    case round =>
      obtain ⟨k, hk, rfl⟩ := hrel
      by_cases hlt : k < l.length
      · obtain ⟨b, off, rfl, hcc⟩ := HS.out.2.2 (by omega)
        obtain ⟨y, hy⟩ : ∃ y, l[k]? = some y := ⟨_, List.getElem?_eq_getElem hlt⟩
        have hcell := hcc k _ (strs_get hy)
        clear hcc hy
        go_wp2
        · go_ret
          exact ⟨_, rfl, Kept.refl _ _⟩
        · go_round
          case rel => exact ⟨k + 1, by omega, by go_num⟩
          case measure => simp [intOf]; omega
      · go_wp2
        go_ret
        exact ⟨_, rfl, Kept.refl _ _⟩
theorem fits6_any (a b : ByteArray) (A : Option Addr) (n c : Nat) (w : World) : Calls Tryz.prog 36 #[.agg #[.string a, .string b, .slice A n c]] w (SomeB w) := by
  go_enter Tryz.func36, Tryz.ntmps36
  go_wp2
  all_goals go_ret
  all_goals exact ⟨_, rfl, (Kept.refl _ _).alloc _⟩
end Go.Proofs.YtghgffhcdnmpnaaGreat
/-
  The bounds on sizes of shares and members (zzFits5, zzFits3, zzFits2), whatever they say. Conditions: none.
-/
namespace Go.Proofs.YtghgffhcdnmpnaaGreat
open Go.RowKit Go.Sort
theorem sh_cells {w : World} {b off : Nat} {l : List (Sh × Value)} (hc : ∀ i v, (l.flatMap shCells)[i]? = some v → w.cell? ⟨b, off + i, none⟩ = some v) {i : Nat} {p : Sh × Value} (hp : l[i]? = some p) : ∀ j v, [Value.string p.1.mem, .string p.1.top, p.2][j]? = some v → w.cell? ⟨b, off + i * 3 + j, none⟩ = some v := by
  intro j v hv
  have hj : j < 3 := by have := (List.getElem?_eq_some_iff.1 hv).1; exact this
  have hf := flat_get shCells 3 (fun _ => rfl) (by decide) l i j hj
  rw [hp] at hf
  rw [Nat.add_assoc]
  exact hc _ _ (hf.trans hv)
set_option maxRecDepth 100000 in
set_option maxHeartbeats 800000 in
theorem fits5_any (A : Option Addr) (c : Nat) (l : List (Sh × Value)) (w : World) (h : ShsArg w (.slice A l.length c) l) : Calls Tryz.prog 16 #[.slice A l.length c] w (SomeB w) := by
  obtain ⟨A', n', c', he, hs, _, _⟩ := h.at'
  cases he
  have HS := Lib.hid hs
  have HG := Lib.hid h.good
  have h63 := hs.2.1
  have H36 := Lib.hid fits6_any
  clear hs h
  go_enter Tryz.func16, Tryz.ntmps16
  go_wp2
  · go_ret
    exact ⟨_, rfl, Kept.refl _ _⟩
  · go_loopw [10] (fun i wr => ∃ k : Nat, k ≤ l.length ∧ i = .int .i64 k ∧ Kept [] w wr) (fun i _ => l.length - (intOf i).toNat)
    case atStart => exact ⟨0, Nat.zero_le _, rfl, Kept.refl _ _⟩
    case round =>
      obtain ⟨k, hk, rfl, hkr⟩ := hrel
      have HKR := Lib.hid hkr
      clear hkr
      by_cases hlt : k < l.length
      · obtain ⟨b, off, rfl, hcc⟩ := HS.out.2.2 (by omega)
        obtain ⟨p, hp⟩ : ∃ p, l[k]? = some p := ⟨_, List.getElem?_eq_getElem hlt⟩
        have HC := Lib.hid (sh_cells (fun i v hv => HKR.out.cell (hcc i v hv) (by simp)) hp)
        obtain ⟨A2, n2, c2, hp2, _⟩ := (HG.out p (List.mem_of_getElem? hp)).parts
        rw [hp2] at HC
        clear hcc hp hp2
        go_wp2_with (first | (refine wl_load_struct rfl 53 _ rfl Tryz.underlying53 rfl rfl b (off + k * 3) rfl _ rfl HC.out ?_) | ((with_reducible refine (H36.out _ _ _ _ _ _).mono ?_); rintro e w1 ⟨bb, rfl, hk1⟩; have HK1 := Lib.hid ((HKR.out.alloc _).trans0 hk1); clear hk1))
        all_goals first
          | (go_ret; exact ⟨_, rfl, HK1.out⟩)
          | (go_roundw
             case rel => exact ⟨k + 1, by omega, by go_num, HK1.out⟩
             case measure => (simp [intOf]) <;> omega)
      · go_wp2
        go_ret
        exact ⟨_, rfl, HKR.out⟩
theorem ShsArg.kept0 {w w' : World} {v : Value} {l : List (Sh × Value)} (h : ShsArg w v l) (k : Kept [] w w') : ShsArg w' v l :=
  ⟨(h.at'.kept0 k).mono (fun _x hx => Nat.lt_of_lt_of_le hx k.size), fun p hp => ⟨(h.good p hp).mem, (h.good p hp).top, ((h.good p hp).parts.kept0 k).mono (fun _x hx => Nat.lt_of_lt_of_le hx k.size), (h.good p hp).nums⟩⟩
theorem MvGood.kept0 {w w' : World} {m : MV} (h : MvGood w m) (k : Kept [] w w') : MvGood w' m :=
  ⟨h.id, h.rack, (h.tops.kept0 k).mono (fun x hx => Nat.lt_of_lt_of_le hx k.size), h.words, h.data, by obtain ⟨A, c, l, h1, h2⟩ := h.own; exact ⟨A, c, l, h1, h2.kept0 k⟩⟩
theorem MemsArg.kept0 {w w' : World} {v : Value} {l : List MV} (h : MemsArg w v l) (k : Kept [] w w') : MemsArg w' v l :=
  ⟨(h.at'.kept0 k).mono (fun _x hx => Nat.lt_of_lt_of_le hx k.size), fun m hm => (h.good m hm).kept0 k⟩
set_option maxRecDepth 100000 in
set_option maxHeartbeats 800000 in
theorem fits3_any (id rack : ByteArray) (ver gen : Int) (A2 A3 A4 : Option Addr) (c2 n3 c3 c4 : Nat) (tops : List ByteArray) (ol : List (Sh × Value)) (hr : Bool) (w : World) (h2 : SlIs w 1 A2 tops.length (strs tops)) (h4 : ShsArg w (.slice A4 ol.length c4) ol) :
    Calls Tryz.prog 35 #[.agg #[.string id, .int .i16 ver, .slice A2 tops.length c2, .slice A3 n3 c3, .slice A4 ol.length c4, .int .i32 gen, .string rack, .bool hr]] w (SomeB w) := by
  have H4 := Lib.hid (fun W (hW : Kept [] w W) => fits4_any A2 c2 tops W (h2.kept0 hW))
  have H5 := Lib.hid (fun W (hW : Kept [] w W) => fits5_any A4 c4 ol W (h4.kept0 hW))
  clear h2 h4
  go_enter Tryz.func35, Tryz.ntmps35
  have HKA : Hid (∀ o, Kept [] w (w.alloc o)) := fun o => (Kept.refl _ _).alloc _
  go_wp2_with (first | ((with_reducible refine (H4.out _ (HKA.out _)).mono ?_); rintro e w1 ⟨b1, rfl, hk1⟩; have hb1 := hk1.heap (heap_alloc_new _ _) (by simp); have HB1 := Lib.hid hb1; have e3 : w1.cell? ⟨w.heap.size, 3, none⟩ = some (.slice A3 n3 c3) := (by simp [World.cell?, hb1]); have e4 : w1.cell? ⟨w.heap.size, 4, none⟩ = some (.slice A4 ol.length c4) := (by simp [World.cell?, hb1]); have HK1 := Lib.hid ((HKA.out _).trans0 hk1); clear hk1 hb1) | ((with_reducible refine (H5.out _ HK1.out).mono ?_); rintro e w2 ⟨b2, rfl, hk2⟩; have hb2 := hk2.heap HB1.out (by simp); have e6 : w2.cell? ⟨w.heap.size, 6, none⟩ = some (.string rack) := (by simp [World.cell?, hb2]); have HK2 := Lib.hid (HK1.out.trans0 hk2); clear hk2 hb2))
  all_goals go_ret
  all_goals first
    | exact ⟨_, rfl, HK2.out⟩
    | exact ⟨_, rfl, HK1.out⟩
    | exact ⟨_, rfl, HKA.out _⟩
set_option maxRecDepth 100000 in
set_option maxHeartbeats 800000 in
theorem fits2_any (A : Option Addr) (c : Nat) (l : List MV) (w : World) (h : MemsArg w (.slice A l.length c) l) : Calls Tryz.prog 15 #[.slice A l.length c] w (SomeB w) := by
  obtain ⟨A', n', c', he, hs, _, _⟩ := h.at'
  cases he
  have HS := Lib.hid hs
  have HG := Lib.hid h.good
  have h63 := hs.2.1
  have H35 := Lib.hid fits3_any
  clear hs h
  go_enter Tryz.func15, Tryz.ntmps15
  go_wp2
  · go_ret
    exact ⟨_, rfl, Kept.refl _ _⟩
  · go_loopw [10] (fun i wr => ∃ k : Nat, k ≤ l.length ∧ i = .int .i64 k ∧ Kept [] w wr) (fun i _ => l.length - (intOf i).toNat)
    case atStart => exact ⟨0, Nat.zero_le _, rfl, Kept.refl _ _⟩
    case round =>
      obtain ⟨k, hk, rfl, hkr⟩ := hrel
      have HKR := Lib.hid hkr
      clear hkr
      by_cases hlt : k < l.length
      · obtain ⟨b, off, rfl, hcc⟩ := HS.out.2.2 (by omega)
        obtain ⟨m, hm⟩ : ∃ m, l[k]? = some m := ⟨_, List.getElem?_eq_getElem hlt⟩
        have HC := Lib.hid (mv_cell (fun i v hv => HKR.out.cell (hcc i v hv) (by simp)) hm)
        have hg := HG.out m (List.mem_of_getElem? hm)
        obtain ⟨A2, n2, c2, hp2, ht2, _, _⟩ := hg.tops
        obtain ⟨A3, c3, hdv⟩ := hg.data
        obtain ⟨A4, c4, ol, hov, ho⟩ := hg.own
        obtain ⟨id, ver, tops, ttv, dv, ov, dn, on, gen, rack, hr⟩ := m
        simp only at hp2 hdv hov ht2 ho
        subst hp2 hdv hov
        obtain rfl : n2 = tops.length := by have := ht2.1; simpa [strs] using this.symm
        obtain rfl : on = ol.length := by
          obtain ⟨A5, n5, c5, e5, h5, _⟩ := ho.at'
          cases e5
          have := h5.1
          rw [flat_len shCells 3 (fun _ => rfl)] at this
          omega
        have HC2 : Hid (∀ j' v, [Value.string id, .int .i16 ver, .slice A2 tops.length c2, .slice A3 dn c3, .slice A4 ol.length c4, .int .i32 gen, .string rack, .bool hr][j']? = some v → wr.cell? ⟨b, off + k * 8 + j', none⟩ = some v) := HC.out
        have HT := Lib.hid ht2
        have HO := Lib.hid ho
        clear hcc hm hg HC ht2 ho
        go_wp2_with (first | (refine wl_load_struct rfl 46 _ rfl Tryz.underlying46 rfl rfl b (off + k * 8) rfl _ rfl HC2.out ?_) | ((with_reducible refine (H35.out _ _ _ _ _ _ _ _ _ _ _ _ _ _ _ (HT.out.kept0 (HKR.out.alloc _)) (HO.out.kept0 (HKR.out.alloc _))).mono ?_); rintro e w1 ⟨bb, rfl, hk1⟩; have HK1 := Lib.hid ((HKR.out.alloc _).trans0 hk1); clear hk1))
        all_goals first
          | (go_ret; exact ⟨_, rfl, HK1.out⟩)
          | (go_roundw
             case rel => exact ⟨k + 1, by omega, by go_num, HK1.out⟩
             case measure => (simp [intOf]) <;> omega)
      · go_wp2
        go_ret
        exact ⟨_, rfl, HKR.out⟩
end Go.Proofs.YtghgffhcdnmpnaaGreat
/-
  A drawn region that only reads, a struct among what it loads. No program in sight. Conditions: those of the law's premises.
-/
namespace Go.Proofs.YtghgffhcdnmpnaaGreat
open Go.RowKit Go.Sort
theorem quiet_load_struct {P : Program} {C : World → Prop} {o : Oper} {a : Act} {K : Act → Prop} (ty : TypeId) (x : Operand) (ho : o.op = .load ty x) (ad : Addr) (hx : a.eval x = .pointer (some ad)) (v : Value)
    (hl : ∀ w, C w → (loadVar ty ad).run P w = .ok v w) (hk : K (a.put o.dst v)) : o.quiet P a C K :=
  ⟨v, fun w hw => by
    unfold Oper.quietAt execOp
    simp only [ho, hx, Instr.loadAt, Instr.sureAddr, Sem.run_bind, Sem.run_pure, Result.andThen_ok, hl w hw]
    exact ⟨rfl, rfl⟩, hk⟩
/-- A world that keeps all blocks of w. -/
structure KW (w0 : World) where
  /-- the world -/
  w : World
  /-- that keeps them -/
  k : Kept [] w0 w
instance {w : World} : Nonempty (KW w) := ⟨⟨w, Kept.refl [] w⟩⟩
theorem wp_region_quiet_k {P : Program} {id : Nat} {Q : Exit → Act → World → Prop} {a : Act} {w : World} {l : List Oper} (hm : P.follows .mixedOrders = true) (hB : Region.lexB .any l.toArray = true)
    (h : wpQuiet P l.toArray (fun w' => ∃ n : KW w, w' = n.w) (fun a' => ∀ w', (∃ n : KW w, w' = n.w) → Q .normal a' w') l a) : (Code.region id l.toArray true).wp P Q a w :=
  wp_region_quiet (C := fun w' => ∃ n : KW w, w' = n.w) hm hB ⟨⟨_, (Kept.refl [] w).drewN 1⟩, rfl⟩ (by simpa using h)
theorem Calls.quiet_k {P : Program} {f : FuncId} {args : Array Value} {w : World} {n : KW w} {v : Value}
    (h : Calls P f args n.w fun e w' => e = .returned v ∧ Kept [] n.w w') : Calls P f args n.w fun e w'' => e = .returned v ∧ ∃ m : KW w, w'' = m.w :=
  h.mono fun _ _ ⟨he, hm⟩ => ⟨he, ⟨_, n.k.trans0 hm⟩, rfl⟩
end Go.Proofs.YtghgffhcdnmpnaaGreat
/-
  Wanted: whether each topic has a member that has subscribed to it. Conditions: none.
-/
namespace Go.Proofs.YtghgffhcdnmpnaaGreat
open Go.RowKit Go.Sort
def wantB (t : ByteArray) (m : MV) : Bool := decide (t ∈ m.tops)
def wantedB (ms : List MV) (ts : List Sh) : Bool := ts.all fun t => ms.any (wantB t.top)
theorem any_take {α : Type} (p : α → Bool) {l : List α} {k : Nat} {y : α} (h : l[k]? = some y) : (l.take (k + 1)).any p = ((l.take k).any p || p y) := by
  rw [take_one h, List.any_append]; simp
theorem all_take' {α : Type} (p : α → Bool) {l : List α} {k : Nat} {y : α} (h : l[k]? = some y) : (l.take (k + 1)).all p = ((l.take k).all p && p y) := by
  rw [take_one h, List.all_append]; simp
set_option maxRecDepth 100000 in
set_option maxHeartbeats 1600000 in
theorem wanted_any (X Y : Nat → Prop) (mv tv : Value) (ms : List MV) (ts : List Sh) (w : World) (hm : MemsAt w X mv ms) (ht : ShsAt w Y tv ts) :
    Calls Tryz.prog 37 #[mv, tv] w fun e w' => e = .returned (.bool (wantedB ms ts)) ∧ Kept [] w w' := by
  obtain ⟨A, n, c, rfl, hms, _, _⟩ := hm.1
  obtain rfl : n = ms.length := by have := hms.1; rw [flat_len mvCells 8 (fun _ => rfl)] at this; omega
  obtain ⟨l, rfl, ⟨At, nt, ct, rfl, hts, _, _⟩, _⟩ := ht
  obtain rfl : nt = l.length := by have := hts.1; rw [flat_len shCells 3 (fun _ => rfl)] at this; omega
  have HM := Lib.hid hm
  have HMS := Lib.hid hms
  have HTS := Lib.hid hts
  have h63 := hms.2.1
  have h64 := hts.2.1
  have HW := Lib.hid wants_any
  clear hm hms hts
  go_enter Tryz.func37, Tryz.ntmps37
  go_wp2
  go_loopw [5] (fun i wr => ∃ k : Nat, k ≤ l.length ∧ i = .int .i64 k ∧ ((l.take k).all fun p => ms.any (wantB p.1.top)) = true ∧ Kept [] w wr) (fun i _ => l.length - (intOf i).toNat)
  case atStart => exact ⟨0, Nat.zero_le _, rfl, rfl, Kept.refl _ _⟩
  case round =>
    obtain ⟨k, hk, rfl, hall, hkr⟩ := hrel
    have HALL := Lib.hid hall
    have HKR := Lib.hid hkr
    clear hall hkr
    by_cases hlt : k < l.length
    · obtain ⟨b, off, rfl, hcc⟩ := HTS.out.2.2 (by omega)
      obtain ⟨p, hp⟩ : ∃ p, l[k]? = some p := ⟨_, List.getElem?_eq_getElem hlt⟩
      have htop : wr.cell? ⟨b, off + k * 3 + 1, none⟩ = some (.string p.1.top) := HKR.out.cell (sh_cells hcc hp 1 _ rfl) (by simp)
      have HP := Lib.hid hp
      obtain ⟨t, ht⟩ : ∃ t, p.1.top = t := ⟨_, rfl⟩
      rw [ht] at htop
      have HT := Lib.hid ht
      clear hcc hp ht
      go_wp2
      obtain ⟨w0, hw0⟩ : ∃ w0 : World, w0 = wr := ⟨_, rfl⟩
      rw [← hw0] at HKR htop ⊢
      clear hw0
      go_loopw [6, 7] (fun s i w1 => ∃ j : Nat, j ≤ ms.length ∧ i = .int .i64 j ∧ s = .bool ((ms.take j).any (wantB t)) ∧ Kept [] w0 w1) (fun _ i _ => ms.length - (intOf i).toNat)
      case atStart => exact ⟨0, Nat.zero_le _, rfl, rfl, Kept.refl _ _⟩
      case round =>
        obtain ⟨j, hj, rfl, rfl, hk1⟩ := hrel
        have htop1 : wr.cell? ⟨b, off + k * 3 + 1, none⟩ = some (.string t) := hk1.cell htop (by simp)
        have HK1 := Lib.hid hk1
        clear hk1
        by_cases hlj : j < ms.length
        · obtain ⟨m, hmj⟩ : ∃ m, ms[j]? = some m := ⟨_, List.getElem?_eq_getElem hlj⟩
          have HANY := Lib.hid (any_take (wantB t) hmj)
          by_cases hs : (ms.take j).any (wantB t) = true
          · rw [hs] at HANY ⊢
            go_wp2
            go_quiet (fail)
            go_wp2
            go_roundw
            case rel => exact ⟨j + 1, by omega, by go_num, by rw [HANY.out]; rfl, HK1.out.drewN _⟩
            case measure => (simp [intOf]) <;> omega
          · have hs : (ms.take j).any (wantB t) = false := by simpa using hs
            rw [hs] at HANY ⊢
            obtain ⟨bm, om, rfl, hcm⟩ := HMS.out.2.2 (by omega)
            have HC := Lib.hid (mv_cell (fun i v hv => (HKR.out.trans0 HK1.out).cell (hcm i v hv) (by simp)) hmj)
            obtain ⟨htv, ⟨A3, c3, hdv⟩, ⟨A4, c4, hov⟩⟩ := HM.out.2 m (List.mem_of_getElem? hmj)
            obtain ⟨A2, n2, c2, htv2, ht2, _, _⟩ := htv
            obtain ⟨id, ver, tops, ttv, dv, ov, dn, on, gen, rack, hr⟩ := m
            simp only at hdv hov htv2 ht2
            subst hdv hov htv2
            obtain rfl : n2 = tops.length := by have := ht2.1; simpa [strs] using this.symm
            have HC2 : Hid (∀ j' v, [Value.string id, .int .i16 ver, .slice A2 tops.length c2, .slice A3 dn c3, .slice A4 on c4, .int .i32 gen, .string rack, .bool hr][j']? = some v → wr.cell? ⟨bm, om + j * 8 + j', none⟩ = some v) := HC.out
            have hld := fun n : KW wr => run_load_struct (P := Tryz.prog) (w := n.w) Tryz.underlying46 rfl rfl bm (om + j * 8) _ rfl (fun i v hv => n.k.cell (HC2.out i v hv) (by simp))
            have HTW := Lib.hid (fun W (hW : Kept [] wr W) => HW.out id rack t ver gen A2 c2 tops (.slice A3 dn c3) (.slice A4 on c4) hr W (ht2.kept0 (((HKR.out.trans0 HK1.out)).trans0 hW)))
            clear hcm HC hmj ht2
            go_wp2
            have hq1 := fun n : KW wr => n.k.cell htop1 (by simp)
            refine wp_region_quiet_k (by kernel_rfl) (by kernel_rfl) ?_
            repeat (first
              | go_big_quiet_skip
              | (go_big_quiet_want; go_big_quiet_op; first | go_big_quiet_on | go_big_quiet_call (exact Calls.quiet_k (HTW.out _ (KW.k _))))
              | (go_big_quiet_want
                 refine quiet_load_struct _ _ rfl _ rfl ?_ ?_ ?_
                 rotate_left
                 · (intro _ hw'
                    obtain ⟨nk, hw''⟩ := hw'
                    subst hw''
                    exact hld nk)
                 (simp only [Act.put, List.setIfInBounds_toArray, List.set_cons_succ, List.set_cons_zero])
                 go_big_quiet_on))
            refine wpQuiet_nil ?_
            intro _ hw'
            obtain ⟨⟨wq, hkq⟩, hw''⟩ := hw'
            subst hw''
            go_wp2
            go_roundw
            case rel => exact ⟨j + 1, by omega, by go_num, by rw [HANY.out]; rfl, HK1.out.trans0 hkq⟩
            case measure => (simp [intOf]) <;> omega
        · have e : ms.take j = ms := List.take_of_length_le (by omega)
          by_cases hs : ms.any (wantB t) = true
          · have HANY := Lib.hid hs
            rw [e, hs]
            clear hs e
            go_wp2
            go_roundw
            case rel => exact ⟨k + 1, by omega, by go_num, by rw [all_take' _ HP.out, HALL.out, HT.out, HANY.out]; rfl, HKR.out.trans0 HK1.out⟩
            case measure => (simp [intOf]) <;> omega
          · have hs : ms.any (wantB t) = false := by simpa using hs
            have HANY := Lib.hid hs
            rw [e, hs]
            clear hs e
            go_wp2
            go_ret
            refine ⟨ret_bool ?_, HKR.out.trans0 HK1.out⟩
            rw [wantedB, List.all_map]
            refine (List.all_eq_false.2 ⟨p, List.mem_of_getElem? HP.out, ?_⟩).symm
            simp [HT.out, HANY.out]
    · go_wp2
      go_ret
      have h := HALL.out
      rw [List.take_of_length_le (by omega)] at h
      exact ⟨ret_bool (by rw [wantedB, List.all_map]; exact h.symm), HKR.out⟩
end Go.Proofs.YtghgffhcdnmpnaaGreat
