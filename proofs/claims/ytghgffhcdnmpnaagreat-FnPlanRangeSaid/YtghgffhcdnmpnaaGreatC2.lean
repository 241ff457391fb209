/-
  How lists of shares and of members stand in memory; the map of topics; laws for lists of pieces of one length.
-/
import Derived.Test.YtghgffhcdnmpnaaGreatC1
import Derived.Deep.LoopGhost
namespace Go.Proofs.YtghgffhcdnmpnaaGreat
open Go.RowKit

/-! ### Pieces of one length -/
theorem flat_get {α β : Type} (f : α → List β) (s : Nat) (hf : ∀ x, (f x).length = s) (hs : 0 < s) : ∀ (l : List α) (i j : Nat), j < s → (l.flatMap f)[i * s + j]? = (l[i]?).bind (fun x => (f x)[j]?)
  | [], i, j, hj => by simp
  | x :: l, 0, j, hj => by
    rw [List.flatMap_cons, Nat.zero_mul, Nat.zero_add, List.getElem?_append_left (by rw [hf]; exact hj)]
    simp
  | x :: l, i + 1, j, hj => by
    have := flat_get f s hf hs l i j hj
    rw [List.flatMap_cons, List.getElem?_append_right (by rw [hf, Nat.add_mul]; omega), hf, show (i + 1) * s + j - s = i * s + j by rw [Nat.add_mul]; omega, this]
    simp
theorem flat_len {α β : Type} (f : α → List β) (s : Nat) (hf : ∀ x, (f x).length = s) : ∀ (l : List α), (l.flatMap f).length = l.length * s
  | [] => by simp
  | x :: l => by rw [List.flatMap_cons, List.length_append, hf, flat_len f s hf l, List.length_cons, Nat.add_mul]; omega

/-! ### Slices whose memory lies in some blocks -/
def SlAt (w : World) (X : Nat → Prop) (s : Nat) (v : Value) (xs : List Value) : Prop :=
  ∃ A n c, v = .slice A n c ∧ SlIs w s A n xs ∧ (∀ a, A = some a → 0 < n → X a.block) ∧ n ≤ c
theorem SlAt.kept {S : List Nat} {w w' : World} {X : Nat → Prop} {s : Nat} {v : Value} {xs : List Value} (h : SlAt w X s v xs) (k : Kept S w w') (hS : ∀ x, X x → x ∉ S) : SlAt w' X s v xs := by
  obtain ⟨A, n, c, rfl, h1, h2, h3⟩ := h
  refine ⟨A, n, c, rfl, ⟨h1.1, h1.2.1, fun hn => ?_⟩, h2, h3⟩
  obtain ⟨b, off, hA, hc⟩ := h1.2.2 hn
  exact ⟨b, off, hA, fun i v hv => k.cell (hc i v hv) (hS _ (h2 ⟨b, off, none⟩ hA hn))⟩
theorem SlAt.mono {w : World} {X Y : Nat → Prop} {s : Nat} {v : Value} {xs : List Value} (h : SlAt w X s v xs) (hXY : ∀ x, X x → Y x) : SlAt w Y s v xs := by
  obtain ⟨A, n, c, rfl, h1, h2, h3⟩ := h
  exact ⟨A, n, c, rfl, h1, fun a ha hn => hXY _ (h2 a ha hn), h3⟩
theorem SlAt.kept0 {w w' : World} {X : Nat → Prop} {s : Nat} {v : Value} {xs : List Value} (h : SlAt w X s v xs) (k : Kept [] w w') : SlAt w' X s v xs := h.kept k (fun _ _ => by simp)
theorem own_cap {w : World} {base : Nat} {e : TypeId} {s n c : Nat} {A : Option Addr} {xs : List Value} (h : w.ownsRow base e s (.slice A n c) n xs) : n ≤ c := by
  rcases h.2 with ⟨h1, h2⟩ | ⟨g, cap, cur, h1, _, _, h2, _⟩
  · omega
  · injection h1 with _ _ h3
    omega
theorem SlAt.own {w : World} {base : Nat} {e : TypeId} {s n : Nat} {v : Value} {xs : List Value} (h : w.ownsRow base e s v n xs) : SlAt w (fun x => v.ownBlock = some x ∧ base ≤ x ∧ x < w.heap.size) s v xs := by
  obtain ⟨A, c, rfl, h1, h2⟩ := own_sl h
  exact ⟨A, n, c, rfl, h1, fun a ha _ => by
    subst ha
    exact ⟨rfl, h2 a rfl⟩, own_cap h⟩
/-- A slice of a slice, with both bounds. -/
theorem run_slice_subN {P : Program} {w : World} {X : Nat → Prop} {t e : TypeId} {A : Option Addr} {m c : Nat} {xs : List Value} {sz : Nat} (ht : P.underlying t = some (.slice e)) (hi : (P.info? e).map (·.size) = some sz) (h : SlAt w X sz (.slice A m c) xs) (lo hi' : Nat) (h1 : lo ≤ hi') (h2 : hi' ≤ m) :
    ∃ v', (Instr.sliceAt t (.slice A m c) (some (.int .i64 lo)) (some (.int .i64 hi')) none).run P w = .ok v' w ∧ SlAt w X sz v' ((xs.take (hi' * sz)).drop (lo * sz)) := by
  obtain ⟨A', n, c', he, hs, hX, hc⟩ := h
  cases he
  have hel : P.elem t = e := by simp [Program.elem, ht]
  have ht' : P.underlying t = some (.slice (P.elem t)) := by rw [hel, ht]
  cases hq : P.info? e with
  | none => simp [hq] at hi
  | some i =>
    have his : i.size = sz := by simpa [hq] using hi
    refine ⟨sliced A lo hi' c sz, ?_, ?_⟩
    · rw [run_sliceAt_slice (P := P) (w := w) t _ _ _ _ ht', run_slice_lh (P := P) (w := w) t _ _ _ ht' _ _ _ _ (by omega) (by omega) (by omega), hel]
      simp [sizeOf, typeInfo, hq, his, Result.andThen]
    · refine ⟨_, _, _, rfl, ⟨?_, by have := hs.2.1; omega, fun hpos => ?_⟩, fun a ha hpos => ?_, by omega⟩
      · rw [List.length_drop, List.length_take, hs.1, Nat.sub_mul, Nat.min_eq_left (Nat.mul_le_mul_right _ h2)]
      · obtain ⟨b, off, rfl, hcc⟩ := hs.2.2 (by omega)
        rw [if_neg (by omega)]
        refine ⟨b, off + lo * sz, by by_cases h0 : lo * sz = 0 <;> simp [Addr.add, h0], fun j v hv => ?_⟩
        rw [List.getElem?_drop, List.getElem?_take] at hv
        split at hv
        · rw [Nat.add_assoc]; exact hcc _ _ hv
        · cases hv
      · obtain ⟨b, off, rfl, hcc⟩ := hs.2.2 (by omega)
        rw [if_neg (by omega)] at ha
        have : a = ⟨b, off + lo * sz, none⟩ := by
          have := ha.symm
          by_cases h0 : lo * sz = 0 <;> simpa [Addr.add, h0] using this
        rw [this]
        exact hX ⟨b, off, none⟩ rfl (by omega)
theorem run_slice_sub {P : Program} {w : World} {X : Nat → Prop} {t e : TypeId} {A : Option Addr} {m c : Nat} {xs : List Value} (ht : P.underlying t = some (.slice e)) (hi : (P.info? e).map (·.size) = some 1) (h : SlAt w X 1 (.slice A m c) xs) (lo hi' : Nat) (h1 : lo ≤ hi') (h2 : hi' ≤ m) :
    ∃ v', (Instr.sliceAt t (.slice A m c) (some (.int .i64 lo)) (some (.int .i64 hi')) none).run P w = .ok v' w ∧ SlAt w X 1 v' ((xs.take hi').drop lo) := by
  have := run_slice_subN ht hi h lo hi' h1 h2
  simpa using this

/-! ### Shares -/
structure Sh where
  mem : ByteArray
  top : ByteArray
  parts : List Int
def shCells (p : Sh × Value) : List Value := [.string p.1.mem, .string p.1.top, p.2]
def ints (l : List Int) : List Value := l.map (Value.int .i32)
theorem ints_one (l : List Int) : ∀ u ∈ ints l, u.oneCell' = true := by
  intro u hu
  obtain ⟨i, _, rfl⟩ := List.mem_map.1 hu
  rfl
def strs (l : List ByteArray) : List Value := l.map Value.string
theorem strs_one (l : List ByteArray) : ∀ u ∈ strs l, u.oneCell' = true := by
  intro u hu
  obtain ⟨i, _, rfl⟩ := List.mem_map.1 hu
  rfl
def ShsAt (w : World) (X : Nat → Prop) (v : Value) (l : List Sh) : Prop :=
  ∃ l' : List (Sh × Value), l'.map Prod.fst = l ∧ SlAt w X 3 v (l'.flatMap shCells) ∧ ∀ p ∈ l', SlAt w X 1 p.2 (ints p.1.parts)
theorem ShsAt.kept {S : List Nat} {w w' : World} {X : Nat → Prop} {v : Value} {l : List Sh} (h : ShsAt w X v l) (k : Kept S w w') (hS : ∀ x, X x → x ∉ S) : ShsAt w' X v l := by
  obtain ⟨l', h1, h2, h3⟩ := h
  exact ⟨l', h1, h2.kept k hS, fun p hp => (h3 p hp).kept k hS⟩
theorem ShsAt.kept0 {w w' : World} {X : Nat → Prop} {v : Value} {l : List Sh} (h : ShsAt w X v l) (k : Kept [] w w') : ShsAt w' X v l := h.kept k (fun _ _ => by simp)
theorem ShsAt.mono {w : World} {X Y : Nat → Prop} {v : Value} {l : List Sh} (h : ShsAt w X v l) (hXY : ∀ x, X x → Y x) : ShsAt w Y v l := by
  obtain ⟨l', h1, h2, h3⟩ := h
  exact ⟨l', h1, h2.mono hXY, fun p hp => (h3 p hp).mono hXY⟩

/-! ### Members -/
structure MV where
  id : ByteArray
  ver : Int
  tops : List ByteArray
  tv : Value
  dv : Value
  ov : Value
  dn : Nat
  on : Nat
  gen : Int
  rack : ByteArray
  hr : Bool
def mvCells (m : MV) : List Value := [.string m.id, .int .i16 m.ver, m.tv, m.dv, m.ov, .int .i32 m.gen, .string m.rack, .bool m.hr]
def MemsAt (w : World) (X : Nat → Prop) (v : Value) (l : List MV) : Prop :=
  SlAt w X 8 v (l.flatMap mvCells) ∧ ∀ m ∈ l, SlAt w X 1 m.tv (strs m.tops) ∧ (∃ A c, m.dv = .slice A m.dn c) ∧ ∃ A c, m.ov = .slice A m.on c
theorem MemsAt.kept {S : List Nat} {w w' : World} {X : Nat → Prop} {v : Value} {l : List MV} (h : MemsAt w X v l) (k : Kept S w w') (hS : ∀ x, X x → x ∉ S) : MemsAt w' X v l :=
  ⟨h.1.kept k hS, fun m hm => ⟨(h.2 m hm).1.kept k hS, (h.2 m hm).2⟩⟩
theorem MemsAt.kept0 {w w' : World} {X : Nat → Prop} {v : Value} {l : List MV} (h : MemsAt w X v l) (k : Kept [] w w') : MemsAt w' X v l := h.kept k (fun _ _ => by simp)

/-! ### Maps of strings to numbers -/
/-- The map's entries, the values read out. -/
def TmAt (w : World) (X : Nat → Prop) (b : Nat) (l : List (ByteArray × List Int)) : Prop :=
  X b ∧ ∃ m : List (ByteArray × Value × List Int), MapIs Value.string w b (m.map fun e => (e.1, e.2.1)) ∧ m.map (fun e => (e.1, e.2.2)) = l ∧ ∀ e ∈ m, SlAt w (fun x => X x ∧ x ≠ b) 1 e.2.1 (ints e.2.2)
theorem TmAt.kept {S : List Nat} {w w' : World} {X : Nat → Prop} {b : Nat} {l : List (ByteArray × List Int)} (h : TmAt w X b l) (k : Kept S w w') (hS : ∀ x, X x → x ∉ S) : TmAt w' X b l := by
  obtain ⟨h0, m, h1, h2, h3⟩ := h
  exact ⟨h0, m, h1.kept k (hS _ h0), h2, fun e he => (h3 e he).kept k (fun x hx => hS x hx.1)⟩
theorem TmAt.kept0 {w w' : World} {X : Nat → Prop} {b : Nat} {l : List (ByteArray × List Int)} (h : TmAt w X b l) (k : Kept [] w w') : TmAt w' X b l := h.kept k (fun _ _ => by simp)
/-- m[k] of such a list; nothing where there is none. -/
def tget : List (ByteArray × List Int) → ByteArray → List Int
  | [], _ => []
  | p :: r, k => if p.1 = k then p.2 else tget r k
theorem SlAt.nil (w : World) (X : Nat → Prop) (s : Nat) : SlAt w X s (.slice none 0 0) [] := ⟨none, 0, 0, rfl, SlIs.nil _ _ _, by simp, Nat.le_refl _⟩
theorem tget_get {w : World} {X : Nat → Prop} (k : ByteArray) : ∀ (m : List (ByteArray × Value × List Int)), (∀ e ∈ m, SlAt w X 1 e.2.1 (ints e.2.2)) →
    SlAt w X 1 ((mget (m.map fun e => (e.1, e.2.1)) k).getD (.slice none 0 0)) (ints (tget (m.map fun e => (e.1, e.2.2)) k))
  | [], _ => SlAt.nil _ _ _
  | e :: m, h => by
    by_cases he : e.1 = k
    · simp only [List.map_cons, mget, tget, he, if_true, Option.getD_some]
      exact h e (.head _)
    · simp only [List.map_cons, mget, tget, he, if_false]
      exact tget_get k m (fun e he => h e (.tail _ he))
end Go.Proofs.YtghgffhcdnmpnaaGreat
