/-
  GroupPlan with the strategy by ranges: the plan, read out in order. Conditions: those of a group (Grp).
-/
import Derived.Test.YtghgffhcdnmpnaaGreatC17
namespace Go.Proofs.YtghgffhcdnmpnaaGreat
open Go.RowKit Go.Sort
theorem Grp.kept0 {w w' : World} {X : Nat → Prop} {mv tv : Value} {ms : List MV} {ts : List Sh} (G : Grp w X mv tv ms ts) (k : Kept [] w w') : Grp w' X mv tv ms ts :=
  { G with mems := G.mems.kept0 k, tops := G.tops.kept0 k, lt := fun x hx => Nat.lt_of_lt_of_le (G.lt x hx) k.size }
set_option maxRecDepth 100000 in
set_option maxHeartbeats 3200000 in
/-- GroupPlan by ranges. -/
theorem groupPlan_range (X : Nat → Prop) (mv tv : Value) (ms : List MV) (ts : List Sh) (w : World) (G : Grp w X mv tv ms ts) :
    Calls Tryz.prog 20 #[.int .i64 0, mv, tv] w fun e w' => ∃ (v : Value) (L : List (Sh × Value)), e = .returned (.tuple #[v, .bool true]) ∧ L.map Prod.fst = canon (rangePlan (memList ms) (topList ts)) (ms.map MV.id) (ts.map Sh.top) ∧
        w'.ownsRow w.heap.size 53 3 v L.length (shFlat L) ∧ (∀ p ∈ L, w'.ownsRow w.heap.size 21 1 p.2 p.1.parts.length (ints p.1.parts)) ∧ Kept [] w w' := by
  obtain ⟨A, n, c, rfl, _⟩ := G.mems.1
  obtain ⟨l', hl', ⟨At, nt, ct, rfl, _⟩, _⟩ := G.tops
  have HG := Lib.hid G
  have hmf : ∀ (fn : Fn) (first cap : Array Value) (w : World), (Instr.makeFunc fn first cap).run Tryz.prog w = .ok (.func fn first cap) w := fun _ _ _ _ => rfl
  clear G hl'
  go_enter Tryz.func20, Tryz.ntmps20
  go_wp2_with fail
  obtain ⟨W5, hW5⟩ : ∃ W5, W5 = (((((w.alloc (Obj.cells #[Value.int IntKind.i64 0] 3)).alloc (Obj.cells #[Value.slice A n c] 29)).alloc (Obj.cells #[Value.slice At nt ct] 30)).alloc (Obj.cells #[Value.slice none 0 0] 30)).alloc (Obj.cells #[Value.bool false] 4)) := ⟨_, rfl⟩
  rw [← hW5]
  obtain ⟨z, hz⟩ : ∃ z, w.heap.size = z := ⟨_, rfl⟩
  have s1 : ∀ (o : Obj), (w.alloc o).heap.size = z + 1 := fun o => by simp [hz]
  have s2 : ∀ (o p : Obj), ((w.alloc o).alloc p).heap.size = z + 2 := fun o p => by simp [hz]
  have s3 : ∀ (o p q : Obj), (((w.alloc o).alloc p).alloc q).heap.size = z + 3 := fun o p q => by simp [hz]
  have s4 : ∀ (o p q r : Obj), ((((w.alloc o).alloc p).alloc q).alloc r).heap.size = z + 4 := fun o p q r => by simp [hz]
  have hs5 : W5.heap.size = z + 5 := by rw [hW5]; simp [hz]
  have b0 : W5.heap[z]? = some (.cells #[.int .i64 0] 3 (0, 0)) := by
    rw [hW5, Below.heap_alloc _ _ _ (by rw [s4]; omega), Below.heap_alloc _ _ _ (by rw [s3]; omega), Below.heap_alloc _ _ _ (by rw [s2]; omega), Below.heap_alloc _ _ _ (by rw [s1]; omega), ← hz, heap_alloc_new]
  have b1 : W5.heap[z + 1]? = some (.cells #[.slice A n c] 29 (0, 0)) := by
    rw [hW5, Below.heap_alloc _ _ _ (by rw [s4]; omega), Below.heap_alloc _ _ _ (by rw [s3]; omega), Below.heap_alloc _ _ _ (by rw [s2]; omega), ← s1 (Obj.cells #[Value.int IntKind.i64 0] 3), heap_alloc_new]
  have b2 : W5.heap[z + 2]? = some (.cells #[.slice At nt ct] 30 (0, 0)) := by
    rw [hW5, Below.heap_alloc _ _ _ (by rw [s4]; omega), Below.heap_alloc _ _ _ (by rw [s3]; omega), ← s2 (Obj.cells #[Value.int IntKind.i64 0] 3) (Obj.cells #[Value.slice A n c] 29), heap_alloc_new]
  have b3 : W5.heap[z + 3]? = some (.cells #[.slice none 0 0] 30 (0, 0)) := by
    rw [hW5, Below.heap_alloc _ _ _ (by rw [s4]; omega), ← s3 (Obj.cells #[Value.int IntKind.i64 0] 3) (Obj.cells #[Value.slice A n c] 29) (Obj.cells #[Value.slice At nt ct] 30), heap_alloc_new]
  have b4 : W5.heap[z + 4]? = some (.cells #[.bool false] 4 (0, 0)) := by
    rw [hW5, ← s4 (Obj.cells #[Value.int IntKind.i64 0] 3) (Obj.cells #[Value.slice A n c] 29) (Obj.cells #[Value.slice At nt ct] 30) (Obj.cells #[Value.slice none 0 0] 30), heap_alloc_new]
  have hK5 : Kept [] w W5 := by rw [hW5]; exact (((((Kept.refl _ _).alloc _).alloc _).alloc _).alloc _).alloc _
  clear hW5
  rw [hz]
  simp only [Nat.add_assoc, Nat.reduceAdd]
  obtain ⟨W6, hW6⟩ : ∃ W6, W6 = W5.alloc (.cells #[.bool false] 4) := ⟨_, rfl⟩
  have hK6 : Kept [] W5 W6 := by rw [hW6]; exact (Kept.refl _ _).alloc _
  have hcl := groupClosure X (.slice A n c) (.slice At nt ct) ms ts (z + 1) z (z + 2) (z + 4) (z + 3) W6 ((HG.out.kept0 hK5).kept0 hK6)
    (by have := hK6.heap b1 (by simp); simp [World.cell?, this]) (by have := hK6.heap b0 (by simp); simp [World.cell?, this]) (by have := hK6.heap b2 (by simp); simp [World.cell?, this]) (hK6.heap b4 (by simp)) (hK6.heap b3 (by simp)) (by omega)
  have h6 : W6.heap[z + 5]? = some (.cells #[.bool false] 4 (0, 0)) := by rw [hW6, ← hs5, heap_alloc_new]
  have hcf : ∀ (args : Array Value) (w : World), (callFunc 40 args).run Tryz.prog w = .ok (.enter 40 args) w := enters_of Tryz.func40 (by kernel_rfl) rfl
  rw [hW6] at hcl
  have hsafe := safe_any 40 _ W5 _ (fun W => hcf _ W) hcl (fun W' hR => by
    obtain ⟨v, L, _, _, _, _, _, hk⟩ := hR
    rw [hs5]
    refine hk.heap ?_ (by simp)
    rw [← hs5, heap_alloc_new])
  refine hsafe.mono ?_
  rintro e w7 ⟨rfl, W', ⟨v, L, hLm, hb4, hb3, hLo, hLp, hk⟩, hk7⟩
  rw [hs5] at hk7
  have hb4' := hk7.heap hb4 (by simp)
  have hb3' := hk7.heap hb3 (by simp)
  rw [← hW6] at hLo hLp hk
  have hs6 : W6.heap.size = z + 6 := by rw [hW6]; simp [hs5]
  rw [hs6] at hLo
  have hLo7 := hk7.own hLo (fun g hg hm => by have h1 := own_ge hLo g hg; have h2 := List.mem_singleton.1 hm; omega)
  have hLp7 : ∀ p ∈ L, w7.ownsRow (z + 6) 21 1 p.2 p.1.parts.length (ints p.1.parts) := fun p hp => by
    have h0 := hLp p hp
    rw [hs6] at h0
    exact hk7.own h0 (fun g hg hm => by have h1 := own_ge h0 g hg; have h2 := List.mem_singleton.1 hm; omega)
  have hkw7 : Kept [] w w7 := (((hK5.trans0 hK6).trans hk (fun x hx => .inr (by simp at hx; omega)))).trans hk7 (fun x hx => .inr (by simp at hx; omega))
  obtain ⟨Av, cv, rfl⟩ := own_form hLo7
  have HLO := Lib.hid hLo7
  have HLP := Lib.hid hLp7
  have HKW := Lib.hid hkw7
  have HLM := Lib.hid hLm
  have HB3 := Lib.hid hb3'
  have HB4 := Lib.hid hb4'
  have c3 : w7.cell? ⟨z + 3, 0, none⟩ = some (.slice Av L.length cv) := by simp [World.cell?, hb3']
  have c4 : w7.cell? ⟨z + 4, 0, none⟩ = some (.bool true) := by simp [World.cell?, hb4']
  have g3 : w7.frozen? ⟨z + 3, 0, none⟩ = false := by simp [World.frozen?, hb3']
  have g4 : w7.frozen? ⟨z + 4, 0, none⟩ = false := by simp [World.frozen?, hb4']
  clear hLo hLp hLm hk hk7 hb3 hb4 hLo7 hLp7 hkw7 hcl hsafe b0 b1 b2 b3 b4 hb3' hb4' h6 hcf hW6 HG hK5 hK6
  go_wp2
  have e3 := heap_setCell_same w7 (z + 3) 0 _ 30 (.slice Av L.length cv) HB3.out
  have e4 : (w7.setCell ⟨z + 3, 0, none⟩ (.slice Av L.length cv)).heap[z + 4]? = some (.cells #[.bool true] 4 (0, 0)) := by
    rw [heap_setCell_other _ _ _ _ (by simp)]
    exact HB4.out
  have e4' := heap_setCell_same _ (z + 4) 0 _ 4 (.bool true) e4
  have e3' : ((w7.setCell ⟨z + 3, 0, none⟩ (.slice Av L.length cv)).setCell ⟨z + 4, 0, none⟩ (.bool true)).heap[z + 3]? = some (.cells #[.slice Av L.length cv] 30 (0, 0)) := by
    rw [heap_setCell_other _ _ _ _ (by simp)]
    exact e3
  have hK : Kept [z + 3, z + 4] w7 ((w7.setCell ⟨z + 3, 0, none⟩ (.slice Av L.length cv)).setCell ⟨z + 4, 0, none⟩ (.bool true)) := ((Kept.refl _ _).setCell (.inl (by simp)) _).setCell (.inl (by simp)) _
  obtain ⟨w8, hw8⟩ : ∃ w8, (w7.setCell ⟨z + 3, 0, none⟩ (.slice Av L.length cv)).setCell ⟨z + 4, 0, none⟩ (.bool true) = w8 := ⟨_, rfl⟩
  rw [hw8] at e4' e3' hK ⊢
  have r3 : w8.cell? ⟨z + 3, 0, none⟩ = some (.slice Av L.length cv) := by simp [World.cell?, e3']
  have r4 : w8.cell? ⟨z + 4, 0, none⟩ = some (.bool true) := by simp [World.cell?, e4']
  clear hw8 e3 e4 e3' e4' c3 c4 g3 g4 hmf
  refine bodyPost_ret (v := .tuple #[.slice Av L.length cv, .bool true]) (by simp [results, Tryz.results20, go_sem, r3, r4]) rfl ⟨_, L, rfl, HLM.out, ?_, ?_, ?_⟩
  · have h0 := hK.own HLO.out (fun g hg hm => by have h1 := own_ge HLO.out g hg; simp at hm; omega)
    exact own_mono h0 (by omega)
  · intro p hp
    have h0 := HLP.out p hp
    have h1 := hK.own h0 (fun g hg hm => by have h1 := own_ge h0 g hg; simp at hm; omega)
    exact own_mono h1 (by omega)
  · exact HKW.out.trans hK (fun x hx => .inr (by simp at hx; omega))
end Go.Proofs.YtghgffhcdnmpnaaGreat
