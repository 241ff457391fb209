/-
  Partition of the thin package: what it answers. Conditions: a key of 100 bytes at most; 1 to 2147483647 partitions.
-/
import Derived.Test.YtghgffhcdnmpnaaGreatC20
namespace Go.Proofs.YtghgffhcdnmpnaaGreat
open Go.RowKit Go.Sort
theorem key_apart {w : World} {g : Nat} {A : Option Addr} {key : List Int} {s k : Int} (h : SlIs w 1 A key.length (bytesV key)) (hg : w.heap[g]? = some (sumObj s k)) : ∀ a, A = some a → 0 < key.length → a.block ≠ g := by
  rintro a ha hn rfl
  obtain ⟨b, off, hA, hc⟩ := h.2.2 hn
  rw [hA] at ha
  cases ha
  obtain ⟨y, hy⟩ : ∃ y, key[0]? = some y := ⟨_, List.getElem?_eq_getElem hn⟩
  have := hc 0 _ (bytesV_get hy)
  simp only [World.cell?, hg, sumObj] at this
  rcases Nat.lt_or_ge (off + 0) 2 with h1 | h1
  · rcases (by omega : off + 0 = 0 ∨ off + 0 = 1) with e | e <;> rw [e] at this <;> simp at this
  · have e : (#[Value.int IntKind.u32 s, Value.int IntKind.i64 k])[off + 0]? = none := by
      rw [Array.getElem?_eq_none]
      simpa using h1
    rw [e] at this
    cases this
theorem hs_ne {w : World} {bh g g' : Nat} {r u : Bool} {s k : Int} (hh : w.heap[bh]? = some (hashObj g' r u)) (hg : w.heap[g]? = some (sumObj s k)) : bh ≠ g := by
  rintro rfl
  rw [hh] at hg
  injection hg with hg
  injection hg with h1 h2
  cases h2
/-- A partitioner by a sum. -/
def HashOk (r u : Bool) (k : Int) (rv : Value) (B : Nat) (w : World) : Prop := ∃ bh g s, rv = .pointer (some ⟨bh, 0, none⟩) ∧ B ≤ bh ∧ B ≤ g ∧ w.heap[bh]? = some (hashObj g r u) ∧ w.heap[g]? = some (sumObj s k)
theorem hashK {kind : Nat} {r u : Bool} {k : Int} {s0 : Int}
    (hmade : ∀ w : World, Calls Tryz.prog 31 #[.int .i64 kind] w fun e w' => e = .returned (.iface 113 (.pointer (some ⟨w.heap.size, 0, none⟩))) ∧ w' = madeW w r u s0 k)
    (hcall : ∀ (bh g bm : Nat) (s : Int) (A : Option Addr) (c : Nat) (key : List Int) (part n : Int) (w : World) (_ : w.heap[bh]? = some (hashObj g r u)) (_ : w.heap[g]? = some (sumObj s k)) (_ : w.heap[bm]? = some (msgObj A key.length c part)) (_ : SlIs w 1 A key.length (bytesV key)) (_ : ∀ a, A = some a → 0 < key.length → a.block ≠ g) (_ : isKey key) (_ : 1 ≤ n) (_ : n ≤ 2147483647),
      Calls Tryz.prog 137 #[.pointer (some ⟨bh, 0, none⟩), .pointer (some ⟨bm, 0, none⟩), .int .i32 n] w fun e w' => e = .returned (.tuple #[.int .i32 (ansOf kind key part n), .nilIface]) ∧ (∃ s, w'.heap[g]? = some (sumObj s k)) ∧ Kept [g] w w') :
    PartK kind 113 137 (ansOf kind) (HashOk r u k) where
  made W := by
    refine (hmade W).mono ?_
    rintro e w' ⟨rfl, rfl⟩
    refine ⟨_, rfl, ⟨W.heap.size, W.heap.size + 1, s0, rfl, by omega, by omega, ?_, ?_⟩, ((Kept.refl _ _).alloc _).alloc _⟩
    · rw [madeW, Below.heap_alloc _ _ _ (by simp), heap_alloc_new]
    · have := heap_alloc_new (W.alloc (hashObj (W.heap.size + 1) r u)) (sumObj s0 k)
      simpa [madeW] using this
  ok rv B a b := by
    rintro ⟨bh, g, s, h1, h2, h3, h4, h5⟩ hk
    exact ⟨bh, g, s, h1, h2, h3, hk.heap h4 (by simp), hk.heap h5 (by simp)⟩
  low rv B B' w := by
    rintro ⟨bh, g, s, h1, h2, h3, h4, h5⟩ hb
    exact ⟨bh, g, s, h1, by omega, by omega, h4, h5⟩
  find := fun _ _ => by kernel_rfl
  enters := enters_of Tryz.func137 (by kernel_rfl) rfl
  call W rv B bm A c key part n := by
    rintro ⟨bh, g, s, rfl, h2, h3, h4, h5⟩ hbm hkey hk hc hn1 hn2
    refine (hcall bh g bm s A c key part n W h4 h5 hbm hkey (key_apart hkey h5) hk hn1 hn2).mono ?_
    rintro e w' ⟨rfl, ⟨s', hs'⟩, hkk⟩
    have hgl : g < W.heap.size := (Array.getElem?_eq_some_iff.1 h5).1
    refine ⟨rfl, hkk.belowB (by omega) (by simpa using h3), ?_⟩
    rintro rv' ⟨bh', g', s1, e1, e2, e3, e4, e5⟩
    refine ⟨bh', g', if g' = g then s' else s1, e1, e2, e3, hkk.heap e4 (by simpa using hs_ne e4 h5), ?_⟩
    by_cases hgg : g' = g
    · subst hgg
      rw [if_pos rfl]
      exact hs'
    · rw [if_neg hgg]
      exact hkk.heap e5 (by simpa using hgg)
theorem partK0 : PartK 0 113 137 (ansOf 0) (HashOk false false 0) := hashK made0 hash0_any
theorem partK1 : PartK 1 113 137 (ansOf 1) (HashOk true false 0) := hashK made1 hash1_any
theorem partK2 : PartK 2 113 137 (ansOf 2) (HashOk false true 1) := hashK made2 hash2_any
theorem partK3 : PartK 3 119 139 (ansOf 3) (fun _ B w => B ≤ w.heap.size) where
  made W := (made3 W).mono fun e w' ⟨h1, h2⟩ => ⟨_, h1, h2.size, h2⟩
  ok := fun _ _ _ _ h k => Nat.le_trans h k.size
  low := fun _ _ _ _ h k => Nat.le_trans k h
  find := fun _ _ => by kernel_rfl
  enters := enters_of Tryz.func139 (by kernel_rfl) rfl
  call W rv B bm A c key part n := fun hB hbm hkey hk hc hn1 _ => (mur_any rv bm A c key part n W hbm hkey hc hk hn1).mono fun e w' ⟨h1, h2⟩ => ⟨h1, h2.belowB hB (by simp), fun _ h => Nat.le_trans h h2.size⟩
theorem partK4 : PartK 4 122 143 (ansOf 4) (fun _ _ _ => True) where
  made W := (partitioner4 W).mono fun e w' ⟨h1, h2⟩ => ⟨_, h1, trivial, h2 ▸ (Kept.refl _ _).alloc _⟩
  ok := fun _ _ _ _ _ _ => trivial
  low := fun _ _ _ _ _ _ => trivial
  find := fun _ _ => by kernel_rfl
  enters := enters_of Tryz.func143 (by kernel_rfl) rfl
  call W rv B bm A c key part n := fun _ hbm hkey hk hc hn1 _ => (manual_any rv bm part n W (by simp [World.cell?, hbm])).mono fun e w' ⟨h1, h2⟩ => ⟨h1, h2 ▸ Below.refl _ _, fun _ _ => trivial⟩
/-- Some blocks more. -/
def allocs (w : World) (os : List Obj) : World := os.foldl World.alloc w
theorem allocs_heap : ∀ (os : List Obj) (w : World), (allocs w os).heap = w.heap ++ os.toArray
  | [], w => by simp [allocs]
  | o :: os, w => by
    rw [show allocs w (o :: os) = allocs (w.alloc o) os from rfl, allocs_heap os]
    show w.heap.push o ++ os.toArray = _
    simp
theorem allocs_kept (os : List Obj) : ∀ (w : World), Kept [] w (allocs w os) := by
  induction os with
  | nil => exact fun w => Kept.refl _ _
  | cons o os ih => exact fun w => ((Kept.refl [] w).alloc o).trans0 (ih (w.alloc o))
theorem allocs_at (w : World) (os : List Obj) (i : Nat) (o : Obj) (h : os[i]? = some o) : (allocs w os).heap[w.heap.size + i]? = some o := by
  rw [allocs_heap, Array.getElem?_append_right (by omega)]
  simpa using h
theorem six_blocks (w : World) (a b c d e f : Obj) : ∃ W, W = ((((((w.alloc a).alloc b).alloc c).alloc d).alloc e).alloc f) ∧ W.heap.size = w.heap.size + 6 ∧ Kept [] w W ∧ W.heap[w.heap.size]? = some a ∧ W.heap[w.heap.size + 1]? = some b ∧ W.heap[w.heap.size + 2]? = some c ∧ W.heap[w.heap.size + 3]? = some d ∧ W.heap[w.heap.size + 4]? = some e ∧ W.heap[w.heap.size + 5]? = some f :=
  ⟨allocs w [a, b, c, d, e, f], rfl, by rw [allocs_heap]; simp, allocs_kept _ _, allocs_at w _ 0 a rfl, allocs_at w _ 1 b rfl, allocs_at w _ 2 c rfl, allocs_at w _ 3 d rfl, allocs_at w _ 4 e rfl, allocs_at w _ 5 f rfl⟩
set_option maxRecDepth 100000 in
set_option maxHeartbeats 3200000 in
theorem partition_of {kind : Nat} {T : TypeId} {M : FuncId} {ans : List Int → Int → Int → Int} {Ok : Value → Nat → World → Prop} (K : PartK kind T M ans Ok) (key : List Int) (part n : Int) (A : Option Addr) (c : Nat) (w : World)
    (hkey : SlIs w 1 A key.length (bytesV key)) (hk : isKey key) (hn1 : 1 ≤ n) (hn2 : n ≤ 2147483647) :
    Calls Tryz.prog 13 #[.int .i64 kind, .slice A key.length c, .int .i32 part, .int .i32 n] w fun e w' => e = .returned (.tuple #[.int .i32 (ans key part n), .bool true]) ∧ Kept [] w w' := by
  have HKEY := Lib.hid hkey
  have HISK := Lib.hid hk
  have hmf : ∀ (fn : Fn) (first cap : Array Value) (w : World), (Instr.makeFunc fn first cap).run Tryz.prog w = .ok (.func fn first cap) w := fun _ _ _ _ => rfl
  clear hkey hk
  go_enter Tryz.func13, Tryz.ntmps13
  go_wp2_with fail
  obtain ⟨W5, hW5, hs5, hK5, b0, b1, b2, b3, b4, b5⟩ := six_blocks w (Obj.cells #[Value.int IntKind.i64 kind] 3) (Obj.cells #[Value.slice A key.length c] 22) (Obj.cells #[Value.int IntKind.i32 part] 21) (Obj.cells #[Value.int IntKind.i32 n] 21) (Obj.cells #[Value.int IntKind.i32 0] 21) (Obj.cells #[Value.bool false] 4)
  rw [← hW5]
  obtain ⟨z, hz⟩ : ∃ z, w.heap.size = z := ⟨_, rfl⟩
  rw [hz] at hs5 b0 b1 b2 b3 b4 b5 ⊢
  clear hW5
  simp only [Nat.add_assoc, Nat.reduceAdd]
  obtain ⟨W6, hW6⟩ : ∃ W6, W6 = W5.alloc (.cells #[.bool false] 4) := ⟨_, rfl⟩
  have hK6 : Kept [] W5 W6 := by rw [hW6]; exact (Kept.refl _ _).alloc _
  have hcell : ∀ {k : Nat} {v : Value} {t : TypeId}, W5.heap[k]? = some (.cells #[v] t (0, 0)) → W6.cell? ⟨k, 0, none⟩ = some v := fun h => by have := hK6.heap h (by simp); simp [World.cell?, this]
  have hcl := partClosure K key part n A c (z + 2) (z + 1) z (z + 3) (z + 4) (z + 5) W6 (hcell b2) (hcell b1) (hcell b0) (hcell b3) (hK6.heap b4 (by simp)) (hK6.heap b5 (by simp)) (by omega) ((HKEY.out.kept0 hK5).kept0 hK6) HISK.out hn1 hn2
  have h6 : W6.heap[z + 6]? = some (.cells #[.bool false] 4 (0, 0)) := by rw [hW6, ← hs5, heap_alloc_new]
  have hcf : ∀ (args : Array Value) (w : World), (callFunc 29 args).run Tryz.prog w = .ok (.enter 29 args) w := enters_of Tryz.func29 (by kernel_rfl) rfl
  rw [hW6] at hcl
  have hsafe := safe_any 29 _ W5 _ (fun W => hcf _ W) hcl (fun W' hR => by
    obtain ⟨_, _, hk⟩ := hR
    rw [hs5]
    refine hk.heap ?_ (by simp)
    rw [← hs5, heap_alloc_new])
  refine hsafe.mono ?_
  rintro e w7 ⟨rfl, W', ⟨hb4, hb5, hk⟩, hk7⟩
  rw [hs5] at hk7
  have hb4' := hk7.heap hb4 (by simp)
  have hb5' := hk7.heap hb5 (by simp)
  rw [← hW6] at hk
  have hkw7 : Kept [] w w7 := (((hK5.trans0 hK6).trans hk (fun x hx => .inr (by simp at hx; omega)))).trans hk7 (fun x hx => .inr (by simp at hx; omega))
  have HKW := Lib.hid hkw7
  have HB4 := Lib.hid hb4'
  have HB5 := Lib.hid hb5'
  obtain ⟨r, hr⟩ : ∃ r, ans key part n = r := ⟨_, rfl⟩
  rw [hr] at HB4 hb4'
  have HR := Lib.hid hr
  have c4 : w7.cell? ⟨z + 4, 0, none⟩ = some (.int .i32 r) := by simp [World.cell?, hb4']
  have c5 : w7.cell? ⟨z + 5, 0, none⟩ = some (.bool true) := by simp [World.cell?, hb5']
  have g4 : w7.frozen? ⟨z + 4, 0, none⟩ = false := by simp [World.frozen?, hb4']
  have g5 : w7.frozen? ⟨z + 5, 0, none⟩ = false := by simp [World.frozen?, hb5']
  clear hk hk7 hb4 hb5 hkw7 hcl hsafe b0 b1 b2 b3 b4 b5 hb4' hb5' h6 hcf hW6 hK5 hK6 hcell hr
  go_wp2
  have e4 := heap_setCell_same w7 (z + 4) 0 _ 21 (.int .i32 r) HB4.out
  have e5 : (w7.setCell ⟨z + 4, 0, none⟩ (.int .i32 r)).heap[z + 5]? = some (.cells #[.bool true] 4 (0, 0)) := by
    rw [heap_setCell_other _ _ _ _ (by simp)]
    exact HB5.out
  have e5' := heap_setCell_same _ (z + 5) 0 _ 4 (.bool true) e5
  have e4' : ((w7.setCell ⟨z + 4, 0, none⟩ (.int .i32 r)).setCell ⟨z + 5, 0, none⟩ (.bool true)).heap[z + 4]? = some (.cells #[.int .i32 r] 21 (0, 0)) := by
    rw [heap_setCell_other _ _ _ _ (by simp)]
    exact e4
  have hK : Kept [z + 4, z + 5] w7 ((w7.setCell ⟨z + 4, 0, none⟩ (.int .i32 r)).setCell ⟨z + 5, 0, none⟩ (.bool true)) := ((Kept.refl _ _).setCell (.inl (by simp)) _).setCell (.inl (by simp)) _
  obtain ⟨w8, hw8⟩ : ∃ w8, (w7.setCell ⟨z + 4, 0, none⟩ (.int .i32 r)).setCell ⟨z + 5, 0, none⟩ (.bool true) = w8 := ⟨_, rfl⟩
  rw [hw8] at e4' e5' hK ⊢
  have r4 : w8.cell? ⟨z + 4, 0, none⟩ = some (.int .i32 r) := by simp [World.cell?, e4']
  have r5 : w8.cell? ⟨z + 5, 0, none⟩ = some (.bool true) := by simp [World.cell?, e5']
  clear hw8 e4 e5 e4' e5' c4 c5 g4 g5 hmf
  refine bodyPost_ret (v := .tuple #[.int .i32 r, .bool true]) (by simp [results, Tryz.results13, go_sem, r4, r5]) rfl ⟨by rw [HR.out], ?_⟩
  exact HKW.out.trans hK (fun x hx => .inr (by simp at hx; omega))
/-- Partition of the thin package. -/
theorem partition_any (kind : Nat) (hkd : kind < 5) (key : List Int) (part n : Int) (A : Option Addr) (c : Nat) (w : World)
    (hkey : SlIs w 1 A key.length (bytesV key)) (hk : isKey key) (hn1 : 1 ≤ n) (hn2 : n ≤ 2147483647) :
    Calls Tryz.prog 13 #[.int .i64 kind, .slice A key.length c, .int .i32 part, .int .i32 n] w fun e w' => e = .returned (.tuple #[.int .i32 (ansOf kind key part n), .bool true]) ∧ Kept [] w w' := by
  rcases (by omega : kind = 0 ∨ kind = 1 ∨ kind = 2 ∨ kind = 3 ∨ kind = 4) with rfl | rfl | rfl | rfl | rfl
  · exact partition_of partK0 key part n A c w hkey hk hn1 hn2
  · exact partition_of partK1 key part n A c w hkey hk hn1 hn2
  · exact partition_of partK2 key part n A c w hkey hk hn1 hn2
  · exact partition_of partK3 key part n A c w hkey hk hn1 hn2
  · exact partition_of partK4 key part n A c w hkey hk hn1 hn2
end Go.Proofs.YtghgffhcdnmpnaaGreat
