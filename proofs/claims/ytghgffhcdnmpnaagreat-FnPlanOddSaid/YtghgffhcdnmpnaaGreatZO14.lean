/-
  What members had before, where they tell nothing: nothing (194). Conditions: no data, nothing owned.
-/
import Derived.Test.YtghgffhcdnmpnaaGreatZO10
import Derived.Test.YtghgffhcdnmpnaaGreatZL3
import Derived.Deep.WholeRow
namespace Go.Proofs.YtghgffhcdnmpnaaGreat
open Go.RowKit Go.Sort Go.MapKept
set_option maxRecDepth 100000 in
set_option maxHeartbeats 3200000 in
theorem prepop_any (coop : Bool) (T : TypeId) (M : FuncId) (off : Nat)
    (hfind : ∀ (rv : Value) (w : World), (method 518 T rv "pub-kestrel/pub/sarama.partitions").run Tryz.prog w = .ok (M, rv) w)
    (_hna : ∀ (b : Nat) (w : World), (nilAhead 518 T (.pointer (some ⟨b, 0, none⟩)) "pub-kestrel/pub/sarama.partitions").run Tryz.prog w = .ok (some false) w)
    (hent : ∀ (args : Array Value) (w : World), (callFunc M args).run Tryz.prog w = .ok (.enter M args) w)
    (hparts : ∀ b A W, W.cell? ⟨b, off, none⟩ = some (.slice A 0 0) → Calls Tryz.prog M #[.pointer (some ⟨b, 0, none⟩)] W fun e w' => e = .returned (.slice A 0 0) ∧ Kept [] W w')
    (hmd : ∀ ver gen A n c rp W, Calls Tryz.prog 200 #[metaV ver (.slice A n c) gen rp, .bool coop] W fun e w' => ∃ b A', e = .returned (.tuple #[.iface T (.pointer (some ⟨b, 0, none⟩)), .nilIface]) ∧ w'.cell? ⟨b, off, none⟩ = some (.slice A' 0 0) ∧ Kept [] W w')
    (X : Nat → Prop) (mb : Nat) (l : List (ByteArray × List ByteArray)) (w : World) (hM : MmAt w X mb l) :
    Calls Tryz.prog 194 #[.map (some mb), .bool coop] w fun e w' => ∃ cb vb, e = .returned (.tuple #[.map (some cb), .map (some vb), .nilIface]) ∧ MapIs Value.string w' cb [] ∧ w.heap.size ≤ cb ∧ cb < vb ∧ vb < w'.heap.size ∧ Kept [] w w' := by
  obtain ⟨hXb, m, hM1, rfl, hmv⟩ := hM
  have hmm := @run_makeMap Tryz.prog
  have hblt := hM1.lt
  have HMD := Lib.hid hmd
  have HPT := Lib.hid hparts
  have HMV := Lib.hid hmv
  obtain ⟨m1, hm1⟩ : ∃ m1, m.map (fun e => (e.1, e.2.1)) = m1 := ⟨_, rfl⟩
  rw [hm1] at hM1
  have HM := Lib.hid hM1
  have HM1 := Lib.hid hm1
  obtain ⟨z, hz⟩ : ∃ z, w.heap.size = z := ⟨_, rfl⟩
  rw [hz] at hblt
  have HZ := Lib.hid hz
  clear hM1 hm1 hmd hparts hmv hz
  go_enter Tryz.func194, Tryz.ntmps194
  go_wp2_with ((refine wl_range rfl _ 75 rfl 9 79 Tryz.underlying75 mb m1 rfl (((HM.out.alloc _).alloc _).alloc _) ?_; intro w1 hI hk1 hs1; have HI := Lib.hid hI; have HK1 := Lib.hid hk1; have HS1 := Lib.hid hs1; clear hI hk1 hs1))
  simp only [Act.put, List.setIfInBounds_toArray, List.set_cons_succ, List.set_cons_zero]
  obtain ⟨W3, hW3⟩ : ∃ W3, (((w.alloc (Obj.map #[] 0)).alloc (Obj.map #[] 0)).alloc (Obj.map #[] 0)) = W3 := ⟨_, rfl⟩
  have hs3 : W3.heap.size = z + 3 := by rw [← hW3, ← HZ.out]; exact (heap3 w _ _ _).2.2.2
  have hm0 : MapIs Value.string W3 z [] := by
    rw [← hW3, ← HZ.out]
    exact ⟨#[], 0, (heap3 w _ _ _).1, stamped_empty 0, rfl⟩
  have hm2 : MapIs tpEnc W3 (z + 2) [] := by
    rw [← hW3, ← HZ.out]
    exact ⟨#[], 0, (heap3 w _ _ _).2.2.1, stamped_empty 0, rfl⟩
  have hk3 : Kept [] w W3 := by rw [← hW3]; exact (((Kept.refl _ _).alloc _).alloc _).alloc _
  rw [hW3] at HI HK1 HS1 ⊢
  rw [hs3] at HI HS1 ⊢
  have HM0 := Lib.hid (hm0.kept HK1.out (by simp))
  have HM2 := Lib.hid (hm2.kept HK1.out (by simp))
  have HKW := Lib.hid (hk3.trans0 HK1.out)
  rw [HZ.out]
  clear HK1 HS1 hW3 hm0 hm2 hk3 hs3
  clear W3
  go_loopg [10] m1.length (fun k _ wr => ∃ (done : List Nat), k = m1.length - done.length ∧ IterIs Value.string wr (z + 3) mb m1 done ∧ MapIs Value.string wr z [] ∧ MapIs tpEnc wr (z + 2) [] ∧ Kept [] w wr)
  case atStart => exact ⟨[], rfl, HI.out, HM0.out, HM2.out, HKW.out⟩
  case round =>
    obtain ⟨done, hk, hI, h0, h2, hkr⟩ := hrel
    have HI1 := Lib.hid hI
    have HM01 := Lib.hid h0
    have HM21 := Lib.hid h2
    have HKR := Lib.hid hkr
    have hdl := hI.left
    have hz3 : z + 3 < wr.heap.size := hI.lt
    clear hI h0 h2 hkr
    by_cases hlt : done.length < m1.length
    · go_wp2_with (first
        | (refine wl_next rfl _ rfl (z + 3) mb m1 done rfl HI1.out (fun e => absurd e (by omega)) ?_
           intro i p w2 hp hi hI2 hK2 hs2
           have HI2 := Lib.hid hI2
           have HK2 := Lib.hid hK2
           have HP := Lib.hid hp
           obtain ⟨id, tops, ver, A, nt, ct, gen, rp, rfl, _, _⟩ := member_at HMV.out (HM1.out.symm ▸ hp)
           clear hI2 hK2 hp hi hs2)
        | (refine wl_entry rfl _ rfl (z + 3) mb m1 done i _ rfl HI2.out HP.out ?_)
        | (refine wl_store_struct rfl 79 _ _ rfl rfl _ rfl rfl 79 _ (heap_alloc_new _ _) rfl (meta_ones ver A nt ct gen rp) ?_; rw [World.setRow_alloc_new])
        | ((with_reducible refine (HMD.out ver gen A nt ct rp _).mono ?_)
           rintro e w3 ⟨b, A', rfl, hc, hk⟩
           have HC3 := Lib.hid hc
           have HK3 := Lib.hid hk
           clear hc hk)
        | ((with_reducible refine (HPT.out b A' _ HC3.out).mono ?_)
           rintro e w4 ⟨rfl, hk⟩
           have HK4 := Lib.hid hk
           clear hk))
      refine wp_loop_once ?_
      go_wp2
      have HKA : Hid (Kept [] w2 w4) := (((Kept.refl [] w2).alloc _).trans0 HK3.out).trans0 HK4.out
      go_roundg (m1.length - (done ++ [i]).length)
      case measure =>
        rw [List.length_append]
        simp only [List.length_cons, List.length_nil]
        omega
      case rel => exact ⟨done ++ [i], rfl, HI2.out.kept HKA.out (by simp) (by simp), (HM01.out.kept HK2.out (by simp)).kept HKA.out (by simp), (HM21.out.kept HK2.out (by simp)).kept HKA.out (by simp), (HKR.out.trans HK2.out (fun x hx => .inr (by have h1 := List.mem_singleton.1 hx; have h2 := HZ.out; omega))).trans0 HKA.out⟩
    · have hde : done.length = m1.length := by omega
      go_wp2_with (first
        | (refine wl_next rfl _ rfl (z + 3) mb m1 done rfl HI1.out (fun _ => ?_) (fun i p w2 hp hi hI2 hK2 hs2 => absurd hI2.left (by rw [List.length_append]; simp only [List.length_cons, List.length_nil]; omega)))
        | (refine wl_range rfl _ 280 rfl 268 286 Tryz.underlying280 (z + 2) [] rfl HM21.out ?_; intro w2 hI hk2 hs2; have HI2 := Lib.hid hI; have HK2 := Lib.hid hk2; clear hI hk2 hs2))
      refine wp_loop_once ?_
      go_wp2_with (refine wl_next rfl _ rfl wr.heap.size (z + 2) [] [] rfl HI2.out (fun _ => ?_) (fun i p w2 hp hi hI2 hK2 hs2 => absurd hI2.left (by simp)))
      have hkw := HKR.out.trans0 HK2.out
      refine bodyPost_ret (v := .tuple #[.map (some z), .map (some (z + 1)), .nilIface]) (by simp [results, Tryz.results194, go_sem]) rfl ⟨z, z + 1, rfl, HM01.out.kept HK2.out (by simp), by have := HZ.out; omega, by omega, by have := HK2.out.size; omega, hkw⟩
theorem prepop0 (X : Nat → Prop) (mb : Nat) (l : List (ByteArray × List ByteArray)) (w : World) (hM : MmAt w X mb l) :
    Calls Tryz.prog 194 #[.map (some mb), .bool false] w fun e w' => ∃ cb vb, e = .returned (.tuple #[.map (some cb), .map (some vb), .nilIface]) ∧ MapIs Value.string w' cb [] ∧ w.heap.size ≤ cb ∧ cb < vb ∧ vb < w'.heap.size ∧ Kept [] w w' :=
  prepop_any false 342 278 2 (fun _ _ => by kernel_rfl) (fun _ _ => by kernel_rfl) (enters_of Tryz.func278 (by kernel_rfl) rfl) parts278_any (fun ver gen A n c rp W => (memberData0_any ver gen A n c rp W).mono fun e w' ⟨b, h1, h2, h3⟩ => ⟨b, none, h1, h2, h3⟩) X mb l w hM
theorem prepop1 (X : Nat → Prop) (mb : Nat) (l : List (ByteArray × List ByteArray)) (w : World) (hM : MmAt w X mb l) :
    Calls Tryz.prog 194 #[.map (some mb), .bool true] w fun e w' => ∃ cb vb, e = .returned (.tuple #[.map (some cb), .map (some vb), .nilIface]) ∧ MapIs Value.string w' cb [] ∧ w.heap.size ≤ cb ∧ cb < vb ∧ vb < w'.heap.size ∧ Kept [] w w' :=
  prepop_any true 323 273 1 (fun _ _ => by kernel_rfl) (fun _ _ => by kernel_rfl) (enters_of Tryz.func273 (by kernel_rfl) rfl) parts273_any memberData1_any X mb l w hM
end Go.Proofs.YtghgffhcdnmpnaaGreat
/-
  The cooperative strategy takes nothing back where nobody owns anything (199). Conditions: nobody owns anything; each member has an entry in the plan.
-/
namespace Go.Proofs.YtghgffhcdnmpnaaGreat
open Go.RowKit Go.Sort Go.MapKept
theorem heap2 (w : World) (a b : Obj) : ((w.alloc a).alloc b).heap[w.heap.size]? = some a ∧ ((w.alloc a).alloc b).heap[w.heap.size + 1]? = some b ∧ ((w.alloc a).alloc b).heap.size = w.heap.size + 2 := by
  have h1 : (w.alloc a).heap.size = w.heap.size + 1 := by simp
  refine ⟨?_, ?_, by simp⟩
  · rw [Below.heap_alloc _ _ _ (by omega), heap_alloc_new]
  · rw [← h1, heap_alloc_new]
theorem store318 (a : Addr) (W : World) : (storeVar 318 a (.agg #[])).run Tryz.prog W = .ok () W := by
  have hi : (Tryz.prog.info? 318).map (·.size) = some 0 := by kernel_rfl
  cases hq : Tryz.prog.info? 318 with
  | none => simp [hq] at hi
  | some i =>
    have hs : i.size = 0 := by simpa [hq] using hi
    simp [storeVar, Sem.run_bind, sizeOf, typeInfo, hq, hs, Value.cells, storeCells]
/-- What stands while a member's partitions are looked at. -/
structure AdjSt (w wr : World) (z q s mb Ib : Nat) (m1 Mi : List (ByteArray × Value)) (d0 d1 : List Nat) : Prop where
  it0 : IterIs Value.string wr (z + 2) mb m1 d0
  it1 : IterIs Value.string wr (s + 1) Ib Mi d1
  add : ∃ d, MapIs tpEnc wr z d
  rev : MapIs tpEnc wr (z + 1) []
  own : MapIs tpEnc wr (q + 1) []
  asg : ∃ a, MapIs tpEnc wr s a
  k : Kept [] w wr
  lt : w.heap.size = z ∧ z + 2 < q ∧ q + 1 < s ∧ mb < z ∧ Ib < z
theorem AdjSt.kept0 {w wr w' : World} {z q s mb Ib : Nat} {m1 Mi : List (ByteArray × Value)} {d0 d1 : List Nat} (h : AdjSt w wr z q s mb Ib m1 Mi d0 d1) (k : Kept [] wr w') : AdjSt w w' z q s mb Ib m1 Mi d0 d1 := by
  obtain ⟨d, hd⟩ := h.add
  obtain ⟨a, ha⟩ := h.asg
  exact ⟨h.it0.kept k (by simp) (by simp), h.it1.kept k (by simp) (by simp), ⟨d, hd.kept k (by simp)⟩, h.rev.kept k (by simp), h.own.kept k (by simp), ⟨a, ha.kept k (by simp)⟩, h.k.trans0 k, h.lt⟩
theorem AdjSt.step {w wr w' : World} {z q s mb Ib : Nat} {m1 Mi : List (ByteArray × Value)} {d0 d1 : List Nat} (h : AdjSt w wr z q s mb Ib m1 Mi d0 d1) {x : Nat} (k : Kept [x] wr w') {a : List (TP × Value)} (hx : x = z ∨ x = s) (hm : MapIs tpEnc w' x a) : AdjSt w w' z q s mb Ib m1 Mi d0 d1 := by
  obtain ⟨h1, h2, h3, h4, h5⟩ := h.lt
  obtain ⟨d, hd⟩ := h.add
  obtain ⟨a', ha⟩ := h.asg
  refine ⟨h.it0.kept k (by simp; omega) (by simp; omega), h.it1.kept k (by simp; omega) (by simp; omega), ?_, h.rev.kept k (by simp; omega), h.own.kept k (by simp; omega), ?_, h.k.trans k (fun y hy => .inr (by have := List.mem_singleton.1 hy; omega)), h.lt⟩
  · rcases hx with rfl | rfl
    · exact ⟨a, hm⟩
    · exact ⟨d, hd.kept k (by simp; omega)⟩
  · rcases hx with rfl | rfl
    · exact ⟨a', ha.kept k (by simp; omega)⟩
    · exact ⟨a, hm⟩
theorem AdjSt.next {w wr w' : World} {z q s mb Ib : Nat} {m1 Mi : List (ByteArray × Value)} {d0 d1 d2 : List Nat} (h : AdjSt w wr z q s mb Ib m1 Mi d0 d1) (k : Kept [s + 1] wr w') (hi : IterIs Value.string w' (s + 1) Ib Mi d2) : AdjSt w w' z q s mb Ib m1 Mi d0 d2 := by
  obtain ⟨h1, h2, h3, h4, h5⟩ := h.lt
  obtain ⟨d, hd⟩ := h.add
  obtain ⟨a', ha⟩ := h.asg
  exact ⟨h.it0.kept k (by simp; omega) (by simp; omega), hi, ⟨d, hd.kept k (by simp; omega)⟩, h.rev.kept k (by simp; omega), h.own.kept k (by simp; omega), ⟨a', ha.kept k (by simp)⟩, h.k.trans k (fun y hy => .inr (by have := List.mem_singleton.1 hy; omega)), h.lt⟩
set_option maxRecDepth 100000 in
set_option maxHeartbeats 6400000 in
theorem adjust_any (X : Nat → Prop) (pb mb : Nat) (l : List (ByteArray × List ByteArray)) (S : List Nat) (F : ByteArray → ByteArray → List Int) (ks : List ByteArray) (I : ByteArray → Nat) (M : ByteArray → List (ByteArray × Value)) (w : World)
    (hM : MmAt w X mb l) (hP : PlanWith w S pb F ks I M) (hks : ∀ p ∈ l, p.1 ∈ ks) :
    Calls Tryz.prog 199 #[.map (some pb), .map (some mb)] w fun e w' => e = .returned (.tuple #[]) ∧ Kept [] w w' := by
  obtain ⟨hXb, m, hM1, rfl, hmv⟩ := hM
  have hmm := @run_makeMap Tryz.prog
  have hmh : ∀ (n : Int) (w : World), (Instr.makeMap 316 (some (.int .i64 n))).run Tryz.prog w = .ok (.map (some w.heap.size)) (w.alloc (.map #[] 0)) := fun n w => by
    simp [Instr.makeMap, asInt, asIntOf]
  have hblt := hM1.lt
  have HOW : Hid (∀ W, Calls Tryz.prog 222 #[.slice none 0 0] W fun e w' => ∃ b, e = .returned (.slice (some ⟨b, 0, none⟩) 0 0) ∧ Kept [] W w') := owned_any
  have HMV := Lib.hid hmv
  have HP := Lib.hid hP
  have HKS := Lib.hid hks
  obtain ⟨m1, hm1⟩ : ∃ m1, m.map (fun e => (e.1, e.2.1)) = m1 := ⟨_, rfl⟩
  rw [hm1] at hM1
  have HM := Lib.hid hM1
  have HM1 := Lib.hid hm1
  obtain ⟨z, hz⟩ : ∃ z, w.heap.size = z := ⟨_, rfl⟩
  rw [hz] at hblt
  have HZ := Lib.hid hz
  have hplt : pb < z := by rw [← hz]; exact hP.outer.lt
  clear hM1 hm1 hmv hz hP hks
  go_enter Tryz.func199, Tryz.ntmps199
  go_wp2_with ((refine wl_range rfl _ 75 rfl 9 79 Tryz.underlying75 mb m1 rfl ((HM.out.alloc _).alloc _) ?_; intro w1 hI hk1 hs1; have HI := Lib.hid hI; have HK1 := Lib.hid hk1; have HS1 := Lib.hid hs1; clear hI hk1 hs1))
  simp only [Act.put, List.setIfInBounds_toArray, List.set_cons_succ, List.set_cons_zero]
  obtain ⟨W3, hW3⟩ : ∃ W3, ((w.alloc (Obj.map #[] 0)).alloc (Obj.map #[] 0)) = W3 := ⟨_, rfl⟩
  have hs3 : W3.heap.size = z + 2 := by rw [← hW3, ← HZ.out]; exact (heap2 w _ _).2.2
  have hm0 : MapIs tpEnc W3 z [] := by
    rw [← hW3, ← HZ.out]
    exact ⟨#[], 0, (heap2 w _ _).1, stamped_empty 0, rfl⟩
  have hm2 : MapIs tpEnc W3 (z + 1) [] := by
    rw [← hW3, ← HZ.out]
    exact ⟨#[], 0, (heap2 w _ _).2.1, stamped_empty 0, rfl⟩
  have hk3 : Kept [] w W3 := by rw [← hW3]; exact ((Kept.refl _ _).alloc _).alloc _
  rw [hW3] at HI HK1 HS1 ⊢
  rw [hs3] at HI HS1 ⊢
  have HM0 := Lib.hid (hm0.kept HK1.out (by simp))
  have HM2 := Lib.hid (hm2.kept HK1.out (by simp))
  have HKW := Lib.hid (hk3.trans0 HK1.out)
  rw [HZ.out]
  clear HK1 HS1 hW3 hm0 hm2 hk3 hs3
  clear W3
  go_loopg [6] m1.length (fun k _ wr => ∃ (done : List Nat) (d : List (TP × Value)), k = m1.length - done.length ∧ IterIs Value.string wr (z + 2) mb m1 done ∧ MapIs tpEnc wr z d ∧ MapIs tpEnc wr (z + 1) [] ∧ Kept [] w wr)
  case atStart => exact ⟨[], [], rfl, HI.out, HM0.out, HM2.out, HKW.out⟩
  case round =>
    obtain ⟨done, d, hk, hI, h0, h2, hkr⟩ := hrel
    have HI1 := Lib.hid hI
    have HM01 := Lib.hid h0
    have HM21 := Lib.hid h2
    have HKR := Lib.hid hkr
    have hdl := hI.left
    have hz3 : z + 2 < wr.heap.size := hI.lt
    clear hI h0 h2 hkr
    by_cases hlt : done.length < m1.length
    · go_wp2_with (first
        | (refine wl_next rfl _ rfl (z + 2) mb m1 done rfl HI1.out (fun e => absurd e (by omega)) ?_
           intro i p w2 hp hi hI2 hK2 hs2
           have HI2 := Lib.hid hI2
           have HK2 := Lib.hid hK2
           have HP2 := Lib.hid hp
           obtain ⟨id, tops, ver, A, nt, ct, gen, rp, rfl, _, hpt⟩ := member_at HMV.out (HM1.out.symm ▸ hp)
           have hidk : id ∈ ks := HKS.out (id, tops) (List.mem_of_getElem? hpt)
           have HIDK := Lib.hid hidk
           clear hI2 hK2 hp hi hs2 hpt hidk)
        | (refine wl_entry rfl _ rfl (z + 2) mb m1 done i _ rfl HI2.out HP2.out ?_)
        | (refine wl_store_struct rfl 79 _ _ rfl rfl _ rfl rfl 79 _ (heap_alloc_new _ _) rfl (meta_ones ver A nt ct gen rp) ?_; rw [World.setRow_alloc_new])
        | ((with_reducible refine (HOW.out _).mono ?_)
           rintro e w3 ⟨b, rfl, hk⟩
           have HK3 := Lib.hid hk
           clear hk))
      obtain ⟨q, hq⟩ : ∃ q, w2.heap.size = q := ⟨_, rfl⟩
      have hzq : z + 2 < q := by rw [← hq]; exact HI2.out.lt
      have hqA : (w2.alloc (Obj.cells #[Value.int IntKind.i16 ver, Value.slice A nt ct, Value.slice none 0 0, Value.slice none 0 0, Value.int IntKind.i32 gen, Value.pointer rp] 79)).heap.size = q + 1 := by rw [← hq]; simp
      have hown : MapIs tpEnc w3 (q + 1) [] := by
        have h := MapIs.new tpEnc (w2.alloc (Obj.cells #[Value.int IntKind.i16 ver, Value.slice A nt ct, Value.slice none 0 0, Value.slice none 0 0, Value.int IntKind.i32 gen, Value.pointer rp] 79))
        rw [hqA] at h
        exact h.kept HK3.out (by simp)
      have HK23 : Hid (Kept [] w2 w3) := (((Kept.refl [] w2).alloc _).alloc _).trans0 HK3.out
      obtain ⟨s, hs⟩ : ∃ s, w3.heap.size = s := ⟨_, rfl⟩
      have hqs : q + 1 < s := by rw [← hs]; exact hown.lt
      have HS := Lib.hid hs
      have HOWN := Lib.hid hown
      have HKW3 : Hid (Kept [] w w3) := (HKR.out.trans HK2.out (fun x hx => .inr (by have h1 := List.mem_singleton.1 hx; have h2 := HZ.out; omega))).trans0 HK23.out
      have hIlt : I id < z := by rw [← HZ.out]; exact (HP.out.inner id HIDK.out).lt
      rw [hq]
      clear HK3 hqA hown hs hq
      refine wp_loop_once ?_
      go_wp2_with (first
        | (refine wl_lookup rfl _ _ 83 rfl 89 Tryz.underlying83 str9 _ (Tryz.zeroValue89 _) pb _ rfl ((HP.out.outer.kept HKW3.out (by simp)).alloc _) id rfl ?_; rw [mget_outer I HIDK.out])
        | (refine wl_range rfl _ 89 rfl 9 49 Tryz.underlying89 (I id) (M id) rfl (((HP.out.inner id HIDK.out).kept HKW3.out (by simp)).alloc _) ?_; intro w4 hI hk4 hs4; have HI4 := Lib.hid hI; have HK4 := Lib.hid hk4; have HS4 := Lib.hid hs4; clear hI hk4 hs4))
      have hsA : (w3.alloc (Obj.map #[] 0)).heap.size = s + 1 := by rw [← HS.out]; simp
      rw [hsA] at HI4
      rw [hsA, HS.out]
      have hasg : MapIs tpEnc w4 s [] := by
        have h := MapIs.new tpEnc w3
        rw [HS.out] at h
        exact h.kept HK4.out (by simp)
      have HST : Hid (AdjSt w w4 z q s mb (I id) m1 (M id) (done ++ [i]) []) :=
        { it0 := (HI2.out.kept HK23.out (by simp) (by simp)).kept (((Kept.refl [] w3).alloc _).trans0 HK4.out) (by simp) (by simp)
          it1 := HI4.out
          add := ⟨d, (((HM01.out.kept HK2.out (by simp)).kept HK23.out (by simp)).kept (((Kept.refl [] w3).alloc _).trans0 HK4.out) (by simp))⟩
          rev := (((HM21.out.kept HK2.out (by simp)).kept HK23.out (by simp)).kept (((Kept.refl [] w3).alloc _).trans0 HK4.out) (by simp))
          own := HOWN.out.kept (((Kept.refl [] w3).alloc _).trans0 HK4.out) (by simp)
          asg := ⟨[], hasg⟩
          k := HKW3.out.trans0 (((Kept.refl [] w3).alloc _).trans0 HK4.out)
          lt := ⟨HZ.out, hzq, hqs, hblt, hIlt⟩ }
      clear hasg hsA HS4
      simp only [Act.put, List.setIfInBounds_toArray, List.set_cons_succ, List.set_cons_zero]
      go_loopg [12, 13] (M id).length (fun k _ _ wr => ∃ (dn : List Nat), k = (M id).length - dn.length ∧ AdjSt w wr z q s mb (I id) m1 (M id) (done ++ [i]) dn)
      case atStart => exact ⟨[], rfl, HST.out⟩
      case round =>
        obtain ⟨dn, hk2, hst⟩ := hrel
        have HST1 := Lib.hid hst
        have hdl2 := hst.it1.left
        clear hst
        by_cases hlt2 : dn.length < (M id).length
        · go_wp2_with (first
            | (refine wl_next rfl _ rfl (s + 1) (I id) (M id) dn rfl HST1.out.it1 (fun e => absurd e (by omega)) ?_
               intro i2 p w5 hp hi hI2 hK2 hs2
               obtain ⟨tt, u⟩ := p
               have HI5 := Lib.hid hI2
               have HPI := Lib.hid hp
               have HST5 := Lib.hid (HST1.out.next hK2 hI2)
               have hrow := HP.out.rows id HIDK.out tt u (List.mem_of_getElem? hp)
               obtain ⟨A5, c5, rfl⟩ := own_form hrow
               have HSL5 := Lib.hid (own_slis hrow)
               have hn63 := (own_slis hrow).2.1
               clear hI2 hK2 hp hi hs2 hrow)
            | (refine wl_entry rfl _ rfl (s + 1) (I id) (M id) dn i2 _ rfl HI5.out HPI.out ?_))
          obtain ⟨n5, hn5⟩ : ∃ n5, (F id tt).length = n5 := ⟨_, rfl⟩
          rw [hn5] at HSL5 hn63 ⊢
          have HN5 := Lib.hid hn5
          clear hn5
          go_loopg [64] n5 (fun k v wr => ∃ (j : Nat), k = n5 - j ∧ j ≤ n5 ∧ v = .int .i64 j ∧ AdjSt w wr z q s mb (I id) m1 (M id) (done ++ [i]) (dn ++ [i2]))
          case atStart => exact ⟨0, rfl, Nat.zero_le _, rfl, HST5.out⟩
          case round =>
            obtain ⟨j, hk3, hj, rfl, hst⟩ := hrel
            have HST6 := Lib.hid hst
            clear hst
            by_cases hjl : j < n5
            · have hjl' : (j : Int) < (n5 : Int) := by omega
              obtain ⟨x, hx⟩ : ∃ x, (F id tt)[j]? = some x := ⟨_, List.getElem?_eq_getElem (by have := HN5.out; omega)⟩
              obtain ⟨b6, o6, rfl, hcc⟩ := HSL5.out.2.2 (by omega)
              have hcx : wr.cell? ⟨b6, o6 + j, none⟩ = some (.int .i32 x) := HST6.out.k.cell (hcc j _ (ints_at' hx)) (by simp)
              obtain ⟨a6, ha6⟩ := HST6.out.asg
              have HA6 := Lib.hid ha6
              have hsr : s < wr.heap.size := ha6.lt
              clear hx hcc ha6
              go_wp2_with (first
                | (refine wl_update rfl _ _ _ 316 rfl 318 Tryz.underlying316 tp_keys s a6 rfl (HA6.out.alloc _) (tt, x) rfl (.agg #[]) rfl ?_
                   intro w7 hM7 hk7 hs7
                   have HST7 := Lib.hid ((HST6.out.kept0 ((Kept.refl [] wr).alloc (.cells #[.string tt, .int .i32 x] 268))).step hk7 (.inr rfl) hM7)
                   have HK7 := Lib.hid hk7
                   obtain ⟨d7, hd7⟩ := HST7.out.add
                   have HD7 := Lib.hid hd7
                   clear hM7 hk7 hd7)
                | (refine wl_load_struct rfl 268 _ rfl Tryz.underlying268 rfl rfl wr.heap.size 0 rfl [.string tt, .int .i32 x] rfl (fun a v hv => HK7.out.cell (by rw [Nat.zero_add, cell_alloc_at]; simpa using hv) (by simp; omega)) ?_)
                | (refine wl_lookup_ok rfl _ _ 316 rfl 318 Tryz.underlying316 tp_keys _ (Tryz.zeroValue318 _) (q + 1) [] rfl HST7.out.own (tt, x) rfl ?_; rw [show mget ([] : List (TP × Value)) (tt, x) = none from rfl])
                | (refine wl_storeV rfl 318 _ _ rfl _ 0 rfl rfl (store318 _ _) ?_)
                | (refine wl_load_struct rfl 268 _ rfl Tryz.underlying268 rfl rfl wr.heap.size 0 rfl [.string tt, .int .i32 x] rfl (fun a v hv => ((Kept.refl [] w7).alloc _).cell (HK7.out.cell (by rw [Nat.zero_add, cell_alloc_at]; simpa using hv) (by simp; omega)) (by simp)) ?_)
                | (refine wl_update rfl _ _ _ 272 rfl 9 Tryz.underlying272 tp_keys z d7 rfl (HD7.out.alloc _) (tt, x) rfl (.string id) rfl ?_
                   intro w8 hM8 hk8 hs8
                   have HST8 := Lib.hid ((HST7.out.kept0 ((Kept.refl [] w7).alloc (.cells #[] 318))).step hk8 (.inl rfl) hM8)
                   clear hM8 hk8))
              go_roundg (n5 - (j + 1))
              case measure => omega
              case rel => exact ⟨j + 1, rfl, by omega, rfl, HST8.out⟩
            · obtain rfl : j = n5 := by omega
              have hjl' : ¬ (j : Int) < (j : Int) := by omega
              go_wp2
              go_roundg ((M id).length - (dn ++ [i2]).length)
              case measure =>
                rw [List.length_append]
                simp only [List.length_cons, List.length_nil]
                omega
              case rel => exact ⟨dn ++ [i2], rfl, HST6.out⟩
        · have hde : dn.length = (M id).length := by omega
          go_wp2_with (first
            | (refine wl_next rfl _ rfl (s + 1) (I id) (M id) dn rfl HST1.out.it1 (fun _ => ?_) (fun i p w2 hp hi hI2 hK2 hs2 => absurd hI2.left (by rw [List.length_append]; simp only [List.length_cons, List.length_nil]; omega)))
            | (refine wl_range rfl _ 316 rfl 268 318 Tryz.underlying316 (q + 1) [] rfl HST1.out.own ?_; intro w5 hI hk5 hs5; have HI5 := Lib.hid hI; have HK5 := Lib.hid hk5; clear hI hk5 hs5))
          refine wp_loop_once ?_
          go_wp2_with (refine wl_next rfl _ rfl _ (q + 1) [] [] rfl HI5.out (fun _ => ?_) (fun i p w2 hp hi hI2 hK2 hs2 => absurd hI2.left (by simp)))
          obtain ⟨d9, hd9⟩ := (HST1.out.kept0 HK5.out).add
          have HD9 := Lib.hid hd9
          have HST9 := Lib.hid (HST1.out.kept0 HK5.out)
          clear hd9
          go_roundg (m1.length - (done ++ [i]).length)
          case measure =>
            rw [List.length_append]
            simp only [List.length_cons, List.length_nil]
            omega
          case rel => exact ⟨done ++ [i], d9, rfl, HST9.out.it0, HD9.out, HST9.out.rev, HST9.out.k⟩
    · have hde : done.length = m1.length := by omega
      go_wp2_with (first
        | (refine wl_next rfl _ rfl (z + 2) mb m1 done rfl HI1.out (fun _ => ?_) (fun i p w2 hp hi hI2 hK2 hs2 => absurd hI2.left (by rw [List.length_append]; simp only [List.length_cons, List.length_nil]; omega)))
        | (refine wl_range rfl _ 272 rfl 268 9 Tryz.underlying272 z d rfl HM01.out ?_; intro w2 hI hk2 hs2; have HI2 := Lib.hid hI; have HK2 := Lib.hid hk2; clear hI hk2 hs2))
      obtain ⟨y, hy⟩ : ∃ y, wr.heap.size = y := ⟨_, rfl⟩
      have hzy : z + 2 < y := by rw [← hy]; exact hz3
      have HY := Lib.hid hy
      have HRV2 := Lib.hid (HM21.out.kept HK2.out (by simp))
      have HKR2 := Lib.hid (HKR.out.trans0 HK2.out)
      rw [hy] at HI2 ⊢
      clear hy HK2
      simp only [Act.put, List.setIfInBounds_toArray, List.set_cons_succ, List.set_cons_zero]
      go_loopg [23] d.length (fun k _ wr => ∃ (dn : List Nat), k = d.length - dn.length ∧ IterIs tpEnc wr y z d dn ∧ MapIs tpEnc wr (z + 1) [] ∧ Kept [] w wr)
      case atStart => exact ⟨[], rfl, HI2.out, HRV2.out, HKR2.out⟩
      case round =>
        obtain ⟨dn, hk2, hI, hrv, hkr⟩ := hrel
        have HI3 := Lib.hid hI
        have HRV3 := Lib.hid hrv
        have HKR3 := Lib.hid hkr
        have hdl2 := hI.left
        clear hI hrv hkr
        by_cases hlt2 : dn.length < d.length
        · go_wp2_with (first
            | (refine wl_next rfl _ rfl y z d dn rfl HI3.out (fun e => absurd e (by omega)) ?_
               intro i2 p w5 hp hi hI2 hK2 hs2
               obtain ⟨x, u⟩ := p
               have HI5 := Lib.hid hI2
               have HPI := Lib.hid hp
               have HK5 := Lib.hid hK2
               have HRV5 := Lib.hid (HRV3.out.kept hK2 (by simp; omega))
               clear hI2 hK2 hp hi hs2)
            | (refine wl_entry rfl _ rfl y z d dn i2 _ rfl HI5.out HPI.out ?_)
            | (refine wl_lookup_ok rfl _ _ 316 rfl 318 Tryz.underlying316 tp_keys _ (Tryz.zeroValue318 _) (z + 1) [] rfl (HRV5.out.alloc _) x rfl ?_; rw [show mget ([] : List (TP × Value)) x = none from rfl])
            | (refine wl_storeV rfl 318 _ _ rfl _ 0 rfl rfl (store318 _ _) ?_))
          go_roundg (d.length - (dn ++ [i2]).length)
          case measure =>
            rw [List.length_append]
            simp only [List.length_cons, List.length_nil]
            omega
          case rel => exact ⟨dn ++ [i2], rfl, HI5.out.kept (((Kept.refl [] w5).alloc _).alloc _) (by simp) (by simp), HRV5.out.kept (((Kept.refl [] w5).alloc _).alloc _) (by simp), ((HKR3.out.trans HK5.out (fun x hx => .inr (by have h1 := List.mem_singleton.1 hx; have h2 := HZ.out; omega))).alloc _).alloc _⟩
        · have hde2 : dn.length = d.length := by omega
          go_wp2_with (refine wl_next rfl _ rfl y z d dn rfl HI3.out (fun _ => ?_) (fun i p w2 hp hi hI2 hK2 hs2 => absurd hI2.left (by rw [List.length_append]; simp only [List.length_cons, List.length_nil]; omega)))
          exact bodyPost_end (results_none rfl _ _ _) rfl ⟨rfl, HKR3.out⟩
end Go.Proofs.YtghgffhcdnmpnaaGreat
/-
  Maps of keys to rows, each a row of its own. No program in sight. Conditions: none beyond each lemma's own.
-/
namespace Go.Proofs.YtghgffhcdnmpnaaGreat
open Go.RowKit Go.Sort Go.MapKept
section
variable {κ : Type} [DecidableEq κ] {enc : κ → Value} {e : TypeId} {s : Nat}
/-- A map of keys to rows, each of its own, from base on. -/
def RowsIs (enc : κ → Value) (e : TypeId) (s : Nat) (w : World) (base b : Nat) (L : List (κ × Nat × List Value)) : Prop :=
  ∃ m : List (κ × Value × Nat × List Value), MapIs enc w b (m.map fun x => (x.1, x.2.1)) ∧ m.map (fun x => (x.1, x.2.2)) = L ∧
    (∀ x ∈ m, w.ownsRow base e s x.2.1 x.2.2.1 x.2.2.2) ∧ m.Pairwise (fun x y => ∀ g, x.2.1.ownBlock = some g → y.2.1.ownBlock ≠ some g)
omit [DecidableEq κ] in
theorem RowsIs.lt {w : World} {base b : Nat} {L : List (κ × Nat × List Value)} (h : RowsIs enc e s w base b L) : b < w.heap.size := by
  obtain ⟨m, h1, _⟩ := h
  exact h1.lt
omit [DecidableEq κ] in
theorem RowsIs.nodup {w : World} {base b : Nat} {L : List (κ × Nat × List Value)} (h : RowsIs enc e s w base b L) : (L.map Prod.fst).Nodup := by
  obtain ⟨m, h1, rfl, _⟩ := h
  have := h1.nodup
  simpa [List.map_map, Function.comp_def] using this
omit [DecidableEq κ] in
theorem RowsIs.kept {S : List Nat} {w w' : World} {base b : Nat} {L : List (κ × Nat × List Value)} (h : RowsIs enc e s w base b L) (k : Kept S w w') (hb : b ∉ S) (hS : ∀ v n xs, w.ownsRow base e s v n xs → ∀ g, v.ownBlock = some g → g ∉ S) : RowsIs enc e s w' base b L := by
  obtain ⟨m, h1, h2, h3, h4⟩ := h
  exact ⟨m, h1.kept k hb, h2, fun x hx => k.own (h3 x hx) (hS _ _ _ (h3 x hx)), h4⟩
omit [DecidableEq κ] in
theorem RowsIs.kept0 {w w' : World} {base b : Nat} {L : List (κ × Nat × List Value)} (h : RowsIs enc e s w base b L) (k : Kept [] w w') : RowsIs enc e s w' base b L := h.kept k (by simp) (fun _ _ _ _ _ _ => by simp)
omit [DecidableEq κ] in
theorem RowsIs.new {w : World} {base b : Nat} (h : MapIs enc w b []) : RowsIs enc e s w base b [] := ⟨[], h, rfl, by simp, .nil⟩
/-- What the map has for a key. -/
theorem RowsIs.get {w : World} {base b : Nat} {L : List (κ × Nat × List Value)} (h : RowsIs enc e s w base b L) {k : κ} {n : Nat} {xs : List Value} (hk : (k, n, xs) ∈ L) :
    ∃ m v, MapIs enc w b m ∧ m.map Prod.fst = L.map Prod.fst ∧ mget m k = some v ∧ w.ownsRow base e s v n xs := by
  obtain ⟨m, h1, rfl, h3, h4⟩ := h
  obtain ⟨x, hx, hxq⟩ := List.mem_map.1 hk
  obtain ⟨k', v, n', xs'⟩ := x
  simp only [Prod.mk.injEq] at hxq
  obtain ⟨rfl, rfl, rfl⟩ := hxq
  exact ⟨_, v, h1, by simp [List.map_map, Function.comp_def], mget_of_mem h1.nodup (List.mem_map.2 ⟨_, hx, rfl⟩), h3 _ hx⟩
theorem mem_keys3 {α β : Type} {L : List (α × β)} {k : α} (h : k ∈ L.map Prod.fst) : ∃ y, (k, y) ∈ L := by
  obtain ⟨⟨k', y⟩, he, rfl⟩ := List.mem_map.1 h
  exact ⟨y, he⟩
theorem nodup_key3 {α β : Type} : ∀ {m : List (α × β)}, (m.map Prod.fst).Nodup → ∀ {e f}, e ∈ m → f ∈ m → e.1 = f.1 → e = f
  | [], _, e, f, h, _, _ => by cases h
  | p :: m, hn, e, f, he, hf, hef => by
    have hn' := List.nodup_cons.1 (show (p.1 :: m.map Prod.fst).Nodup from hn)
    rcases List.mem_cons.1 he with h1 | h1 <;> rcases List.mem_cons.1 hf with h2 | h2
    · rw [h1, h2]
    · exact absurd (List.mem_map.2 ⟨f, h2, by rw [← hef, h1]⟩) hn'.1
    · exact absurd (List.mem_map.2 ⟨e, h1, by rw [hef, h2]⟩) hn'.1
    · exact nodup_key3 hn'.2 h1 h2 hef
omit [DecidableEq κ] in
theorem rows_apart3 : ∀ {m : List (κ × Value × Nat × List Value)}, m.Pairwise (fun x y => ∀ g, x.2.1.ownBlock = some g → y.2.1.ownBlock ≠ some g) → ∀ {x y}, x ∈ m → y ∈ m → x ≠ y → ∀ g, x.2.1.ownBlock = some g → y.2.1.ownBlock ≠ some g
  | [], _, x, y, h, _, _ => by cases h
  | p :: m, hp, x, y, hx, hy, hne => by
    obtain ⟨h1, h2⟩ := List.pairwise_cons.1 hp
    rcases List.mem_cons.1 hx with h3 | h3 <;> rcases List.mem_cons.1 hy with h4 | h4
    · exact absurd (h3.trans h4.symm) hne
    · rw [h3]; exact h1 y h4
    · rw [h4]; exact fun g h5 h6 => h1 x h3 g h6 h5
    · exact rows_apart3 h2 h3 h4 hne
omit [DecidableEq κ] in
/-- Two lists of a map's entries are the same. -/
theorem MapIs.uniq {w : World} {b : Nat} (hinj : ∀ {x y : κ}, enc x = enc y → x = y) {m m' : List (κ × Value)} (h : MapIs enc w b m) (h' : MapIs enc w b m') : m = m' := by
  obtain ⟨es, cl, g1, _, g3⟩ := h
  obtain ⟨es', cl', g1', _, g3'⟩ := h'
  rw [g1] at g1'
  cases g1'
  refine map_inj_right' (fun p q hpq => ?_) (g3.symm.trans g3')
  simp only [Prod.mk.injEq] at hpq
  exact Prod.ext (hinj hpq.1) hpq.2
/-- A key comes. -/
theorem RowsIs.push {w w1 w2 : World} {base b : Nat} {L : List (κ × Nat × List Value)} {k : κ} {m0 : List (κ × Value)} {v : Value} {n : Nat} {xs : List Value} (hinj : ∀ {x y : κ}, enc x = enc y → x = y) (h : RowsIs enc e s w base b L) (hk : k ∉ L.map Prod.fst) (hm0 : MapIs enc w b m0)
    (hrow : w1.ownsRow base e s v n xs) (hk1 : Kept [] w w1) (hv : ∀ g, v.ownBlock = some g → w.heap.size ≤ g) (hm : MapIs enc w2 b (mset m0 k v)) (hk2 : Kept [b] w1 w2) : RowsIs enc e s w2 base b (L ++ [(k, n, xs)]) := by
  obtain ⟨m, h1, rfl, h3, h4⟩ := h
  have hme := MapIs.uniq hinj hm0 h1
  subst hme
  have hkm : mget (m.map fun x => (x.1, x.2.1)) k = none := mget_none_iff.2 (by simpa [List.map_map, Function.comp_def] using hk)
  rw [mset_new v hkm] at hm
  have hb1 := h1.kept hk1 (by simp)
  refine ⟨m ++ [(k, v, n, xs)], by rw [List.map_append]; exact hm, by rw [List.map_append]; rfl, fun x hx => ?_, ?_⟩
  · rcases List.mem_append.1 hx with hx | hx
    · have h5 := own_kept0 (h3 x hx) hk1
      exact hk2.own h5 (fun g hg => by simpa using own_map_ne h5 hb1 g hg)
    · rw [List.mem_singleton.1 hx]
      exact hk2.own hrow (fun g hg => by simpa using own_map_ne hrow hb1 g hg)
  · rw [List.pairwise_append]
    refine ⟨h4, List.pairwise_singleton _ _, fun x hx y hy g hg hyg => ?_⟩
    rw [List.mem_singleton.1 hy] at hyg
    have := own_lt (h3 x hx) g hg
    have := hv g hyg
    omega
/-- A row has grown, and has been laid back. -/
theorem RowsIs.set {w w1 w2 : World} {base b : Nat} {L : List (κ × Nat × List Value)} {k : κ} {m0 : List (κ × Value)} {v0 v : Value} {n n0 : Nat} {xs xs0 : List Value} (hinj : ∀ {x y : κ}, enc x = enc y → x = y) (h : RowsIs enc e s w base b L) (hk : (k, n0, xs0) ∈ L)
    (hm0 : MapIs enc w b m0) (hv0 : mget m0 k = some v0)
    (hrow : w1.ownsRow base e s v n xs) (hk1 : Kept v0.ownBlock.toList w w1) (hv : v.ownBlock = v0.ownBlock ∨ ∃ g, v.ownBlock = some g ∧ w.heap.size ≤ g)
    (hm : MapIs enc w2 b (mset m0 k v)) (hk2 : Kept [b] w1 w2) : RowsIs enc e s w2 base b (L.map fun x => if x.1 = k then (k, n, xs) else x) := by
  have hn := h.nodup
  obtain ⟨m, h1, rfl, h3, h4⟩ := h
  have hme := MapIs.uniq hinj hm0 h1
  subst hme
  obtain ⟨x, hx, hxq⟩ := List.mem_map.1 hk
  obtain ⟨k', u, n', xs'⟩ := x
  simp only [Prod.mk.injEq] at hxq
  obtain ⟨rfl, rfl, rfl⟩ := hxq
  have hu : u = v0 := by
    have := mget_of_mem h1.nodup (List.mem_map.2 ⟨_, hx, rfl⟩ : (k', u) ∈ m.map fun x => (x.1, x.2.1))
    rw [this] at hv0
    exact Option.some.inj hv0
  subst hu
  have hb0 : b ∉ u.ownBlock.toList := fun hm => own_map_ne (h3 _ hx) h1 b (by simpa using hm) rfl
  have hb1 : MapIs enc w1 b (m.map fun x => (x.1, x.2.1)) := h1.kept hk1 hb0
  have hkeys : (m.map Prod.fst).Nodup := by simpa [List.map_map, Function.comp_def] using hn
  refine ⟨m.map fun x => if x.1 = k' then (k', v, n, xs) else x, ?_, ?_, ?_, ?_⟩
  · rw [mset_map v k' h1.nodup (List.mem_map.2 ⟨_, List.mem_map.2 ⟨_, hx, rfl⟩, rfl⟩)] at hm
    rw [List.map_map] at hm ⊢
    rw [show (fun x => (x.1, x.2.1)) ∘ (fun x : κ × Value × Nat × List Value => if x.1 = k' then (k', v, n, xs) else x) = (fun x : κ × Value => if x.1 = k' then (k', v) else x) ∘ (fun x : κ × Value × Nat × List Value => (x.1, x.2.1)) from by
      funext x
      simp only [Function.comp_def]
      split <;> rfl]
    exact hm
  · rw [List.map_map, List.map_map]
    refine List.map_congr_left fun x _ => ?_
    simp only [Function.comp_def]
    split <;> rfl
  · intro y hy
    obtain ⟨x, hxm, rfl⟩ := List.mem_map.1 hy
    by_cases hxk : x.1 = k'
    · rw [if_pos hxk]
      exact hk2.own hrow (fun g hg => by simpa using own_map_ne hrow hb1 g hg)
    · rw [if_neg hxk]
      have h0 := h3 x hxm
      have h5 := hk1.own h0 (fun g hg hm => rows_apart3 h4 hxm hx (fun h => hxk (by rw [h])) g hg (by simpa using hm))
      exact hk2.own h5 (fun g hg => by simpa using own_map_ne h5 hb1 g hg)
  · rw [List.pairwise_map]
    refine List.Pairwise.imp_of_mem ?_ (List.Pairwise.and (List.pairwise_map.1 hkeys) h4)
    rintro x y hxm hym ⟨hne, hxy⟩ g
    have hnew : ∀ f ∈ m, f.1 ≠ k' → ∀ g, v.ownBlock = some g → f.2.1.ownBlock ≠ some g := by
      intro f hfm hfk g hg hfg
      rcases hv with hv | ⟨g', hv, hge⟩
      · rw [hv] at hg
        exact rows_apart3 h4 hfm hx (fun h => hfk (by rw [h])) g hfg hg
      · have h6 := own_lt (h3 f hfm) g hfg
        rw [hg] at hv
        have : g = g' := Option.some.inj hv
        omega
    by_cases hxk : x.1 = k' <;> by_cases hyk : y.1 = k'
    · exact absurd (hxk.trans hyk.symm) hne
    · rw [if_pos hxk, if_neg hyk]
      exact hnew y hym hyk g
    · rw [if_neg hxk, if_pos hyk]
      exact fun h5 h6 => hnew x hxm hxk g h6 h5
    · rw [if_neg hxk, if_neg hyk]
      exact hxy g
end
end Go.Proofs.YtghgffhcdnmpnaaGreat
/-
  What stands while the sticky strategies' Plan makes its maps. No program's walk. Conditions: none beyond each lemma's own.
-/
namespace Go.Proofs.YtghgffhcdnmpnaaGreat
open Go.RowKit Go.Sort Go.MapKept
theorem str_inj {x y : ByteArray} (h : Value.string x = Value.string y) : x = y := by injection h
theorem mset_self {κ : Type} [DecidableEq κ] {m : List (κ × Value)} {k : κ} {v : Value} (hn : (m.map Prod.fst).Nodup) (h : mget m k = some v) : mset m k v = m := by
  have hk := mem_of_mget h
  rw [mset_map v k hn (List.mem_map.2 ⟨_, hk, rfl⟩)]
  conv => rhs; rw [← List.map_id m]
  refine List.map_congr_left fun p hp => ?_
  by_cases hpk : p.1 = k
  · rw [if_pos hpk]
    exact (nodup_key3 hn hp hk hpk).symm
  · rw [if_neg hpk]
    rfl
/-- The map is written as it was. -/
theorem RowsIs.same {κ : Type} [DecidableEq κ] {enc : κ → Value} {e : TypeId} {s : Nat} {w w1 : World} {base b : Nat} {L : List (κ × Nat × List Value)} {m0 : List (κ × Value)} (hinj : ∀ {x y : κ}, enc x = enc y → x = y) (h : RowsIs enc e s w base b L) (hm0 : MapIs enc w b m0) (hm1 : MapIs enc w1 b m0) (hk : Kept [b] w w1) : RowsIs enc e s w1 base b L := by
  obtain ⟨m, h1, h2, h3, h4⟩ := h
  have hme := MapIs.uniq hinj hm0 h1
  subst hme
  exact ⟨m, hm1, h2, fun x hx => hk.own (h3 x hx) (fun g hg => by simpa using own_map_ne (h3 x hx) h1 g hg), h4⟩
/-- What stands while members are looked at: the iterator, who could have a pair (each a row), what a member could have (each a row), what each has. -/
structure St7 (w1 w : World) (z mb Pb Qb Cb r : Nat) (m1 : List (ByteArray × Value)) (done : List Nat) (LP : List (TP × Nat × List Value)) (LQ : List (ByteArray × Nat × List Value)) (LC : List (ByteArray × Value)) : Prop where
  it : IterIs Value.string w r mb m1 done
  pr : RowsIs tpEnc 9 1 w z Pb LP
  qr : RowsIs Value.string 268 2 w z Qb LQ
  cr : MapIs Value.string w Cb LC
  k : Kept [] w1 w
  ge : w1.heap.size = z ∧ mb < z ∧ z ≤ Pb ∧ z ≤ Qb ∧ z ≤ Cb ∧ z ≤ r
  ne : Pb ≠ Qb ∧ Pb ≠ Cb ∧ Qb ≠ Cb ∧ r ≠ Pb ∧ r ≠ Qb ∧ r ≠ Cb
section
variable {w1 w : World} {z mb Pb Qb Cb r : Nat} {m1 : List (ByteArray × Value)} {done : List Nat} {LP : List (TP × Nat × List Value)} {LQ : List (ByteArray × Nat × List Value)} {LC : List (ByteArray × Value)}
theorem St7.kept0 {w' : World} (h : St7 w1 w z mb Pb Qb Cb r m1 done LP LQ LC) (k : Kept [] w w') : St7 w1 w' z mb Pb Qb Cb r m1 done LP LQ LC :=
  ⟨h.it.kept k (by simp) (by simp), h.pr.kept0 k, h.qr.kept0 k, h.cr.kept k (by simp), h.k.trans0 k, h.ge, h.ne⟩
theorem St7.next {w' : World} {done' : List Nat} (h : St7 w1 w z mb Pb Qb Cb r m1 done LP LQ LC) (k : Kept [r] w w') (hi : IterIs Value.string w' r mb m1 done') : St7 w1 w' z mb Pb Qb Cb r m1 done' LP LQ LC := by
  obtain ⟨n1, n2, n3, n4, n5, n6⟩ := h.ne
  exact ⟨hi, h.pr.kept k (by simpa using Ne.symm n4) (fun v n xs ho => own_iter_ne ho h.it), h.qr.kept k (by simpa using Ne.symm n5) (fun v n xs ho => own_iter_ne ho h.it), h.cr.kept k (by simpa using Ne.symm n6),
    h.k.trans k (fun x hx => .inr (by have := List.mem_singleton.1 hx; have := h.ge; omega)), h.ge, h.ne⟩
/-- A member comes into what it could have. -/
theorem St7.qpush {a w2 : World} {k : ByteArray} {m0 : List (ByteArray × Value)} {v : Value} (h : St7 w1 w z mb Pb Qb Cb r m1 done LP LQ LC) (hk : k ∉ LQ.map Prod.fst) (hm0 : MapIs Value.string w Qb m0)
    (hrow : a.ownsRow z 268 2 v 0 []) (hk1 : Kept [] w a) (hv : ∀ g, v.ownBlock = some g → w.heap.size ≤ g) (hm : MapIs Value.string w2 Qb (mset m0 k v)) (hk2 : Kept [Qb] a w2) : St7 w1 w2 z mb Pb Qb Cb r m1 done LP (LQ ++ [(k, 0, [])]) LC := by
  obtain ⟨n1, n2, n3, n4, n5, n6⟩ := h.ne
  obtain ⟨g1, g2, g3, g4, g5, g6⟩ := h.ge
  have ha := h.kept0 hk1
  exact ⟨ha.it.kept hk2 (by simp; omega) (by simpa using n5), ha.pr.kept hk2 (by simpa using n1) (fun v n xs ho g hg => by obtain ⟨m', q1, _⟩ := ha.qr; simpa using own_map_ne ho q1 g hg), h.qr.push str_inj hk hm0 hrow hk1 hv hm hk2, ha.cr.kept hk2 (by simpa using Ne.symm n3),
    ha.k.trans hk2 (fun x hx => .inr (by have := List.mem_singleton.1 hx; omega)), h.ge, h.ne⟩
/-- A member could have one more. -/
theorem St7.qset {a w2 : World} {k : ByteArray} {m0 : List (ByteArray × Value)} {v0 v : Value} {n n0 : Nat} {xs xs0 : List Value} (h : St7 w1 w z mb Pb Qb Cb r m1 done LP LQ LC) (hk : (k, n0, xs0) ∈ LQ) (hm0 : MapIs Value.string w Qb m0) (hv0 : mget m0 k = some v0)
    (hrow0 : w.ownsRow z 268 2 v0 n0 xs0) (hrow : a.ownsRow z 268 2 v n xs) (hk1 : Kept v0.ownBlock.toList w a) (hv : v.ownBlock = v0.ownBlock ∨ ∃ g, v.ownBlock = some g ∧ w.heap.size ≤ g)
    (hm : MapIs Value.string w2 Qb (mset m0 k v)) (hk2 : Kept [Qb] a w2) : St7 w1 w2 z mb Pb Qb Cb r m1 done LP (LQ.map fun x => if x.1 = k then (k, n, xs) else x) LC := by
  obtain ⟨n1, n2, n3, n4, n5, n6⟩ := h.ne
  obtain ⟨g1, g2, g3, g4, g5, g6⟩ := h.ge
  have hb : ∀ {κ : Type} {enc : κ → Value} {b : Nat} {m : List (κ × Value)}, MapIs enc w b m → b ∉ v0.ownBlock.toList := fun hm hh => own_map_ne hrow0 hm _ (by simpa using hh) rfl
  have hpr : RowsIs tpEnc 9 1 a z Pb LP := by
    obtain ⟨m', q1, q2, q3, q4⟩ := h.pr
    exact ⟨m', q1.kept hk1 (hb q1), q2, fun x hx => hk1.own (q3 x hx) (fun g hg => own_types_ne (q3 x hx) hrow0 (by decide) g hg), q4⟩
  have hit : IterIs Value.string a r mb m1 done := h.it.kept hk1 (hb h.it.map) (fun hh => own_iter_ne hrow0 h.it r (by simpa using hh) (by simp))
  have hcr : MapIs Value.string a Cb LC := h.cr.kept hk1 (hb h.cr)
  refine ⟨hit.kept hk2 (by simp; omega) (by simpa using n5), hpr.kept hk2 (by simpa using n1) (fun v n xs ho g hg => by simpa using own_map_ne ho (hm0.kept hk1 (hb hm0)) g hg), h.qr.set str_inj hk hm0 hv0 hrow hk1 hv hm hk2, hcr.kept hk2 (by simpa using Ne.symm n3), ?_, h.ge, h.ne⟩
  refine (h.k.trans hk1 (fun x hx => .inr ?_)).trans hk2 (fun x hx => .inr (by have := List.mem_singleton.1 hx; omega))
  rw [g1]
  exact own_ge hrow0 x (by simpa using hx)
/-- A pair could go to one more. -/
theorem St7.pset {a b w2 : World} {k : TP} {m0 : List (TP × Value)} {v0 v : Value} {n n0 : Nat} {xs xs0 : List Value} (h : St7 w1 w z mb Pb Qb Cb r m1 done LP LQ LC) (hk : (k, n0, xs0) ∈ LP) (hm0 : MapIs tpEnc w Pb m0) (hv0 : mget m0 k = some v0)
    (hka : Kept [Pb] w a) (hma : MapIs tpEnc a Pb m0) (hrow0 : a.ownsRow z 9 1 v0 n0 xs0) (hrow : b.ownsRow z 9 1 v n xs) (hk1 : Kept v0.ownBlock.toList a b) (hv : v.ownBlock = v0.ownBlock ∨ ∃ g, v.ownBlock = some g ∧ a.heap.size ≤ g)
    (hm : MapIs tpEnc w2 Pb (mset m0 k v)) (hk2 : Kept [Pb] b w2) : St7 w1 w2 z mb Pb Qb Cb r m1 done (LP.map fun x => if x.1 = k then (k, n, xs) else x) LQ LC := by
  obtain ⟨n1, n2, n3, n4, n5, n6⟩ := h.ne
  obtain ⟨g1, g2, g3, g4, g5, g6⟩ := h.ge
  have hpa : RowsIs tpEnc 9 1 a z Pb LP := h.pr.same tpEnc_inj hm0 hma hka
  have hqa : RowsIs Value.string 268 2 a z Qb LQ := h.qr.kept hka (by simpa using Ne.symm n1) (fun v n xs ho g hg => by simpa using own_map_ne ho hm0 g hg)
  have hia : IterIs Value.string a r mb m1 done := h.it.kept hka (by simp; omega) (by simpa using n4)
  have hca : MapIs Value.string a Cb LC := h.cr.kept hka (by simpa using Ne.symm n2)
  have hb : ∀ {κ : Type} {enc : κ → Value} {c : Nat} {m : List (κ × Value)}, MapIs enc a c m → c ∉ v0.ownBlock.toList := fun hm hh => own_map_ne hrow0 hm _ (by simpa using hh) rfl
  have hqr : RowsIs Value.string 268 2 b z Qb LQ := by
    obtain ⟨m', q1, q2, q3, q4⟩ := hqa
    exact ⟨m', q1.kept hk1 (hb q1), q2, fun x hx => hk1.own (q3 x hx) (fun g hg => own_types_ne (q3 x hx) hrow0 (by decide) g hg), q4⟩
  have hit : IterIs Value.string b r mb m1 done := hia.kept hk1 (hb hia.map) (fun hh => own_iter_ne hrow0 hia r (by simpa using hh) (by simp))
  have hcr : MapIs Value.string b Cb LC := hca.kept hk1 (hb hca)
  refine ⟨hit.kept hk2 (by simp; omega) (by simpa using n4), hpa.set tpEnc_inj hk hma hv0 hrow hk1 hv hm hk2, hqr.kept hk2 (by simpa using Ne.symm n1) (fun v n xs ho g hg => by simpa using own_map_ne ho (hma.kept hk1 (hb hma)) g hg), hcr.kept hk2 (by simpa using Ne.symm n2), ?_, h.ge, h.ne⟩
  refine ((h.k.trans hka (fun x hx => .inr (by have := List.mem_singleton.1 hx; omega))).trans hk1 (fun x hx => .inr ?_)).trans hk2 (fun x hx => .inr (by have := List.mem_singleton.1 hx; omega))
  rw [g1]
  exact own_ge hrow0 x (by simpa using hx)
/-- A member comes into what each has. -/
theorem St7.cset {w2 : World} {LC' : List (ByteArray × Value)} (h : St7 w1 w z mb Pb Qb Cb r m1 done LP LQ LC) (hm : MapIs Value.string w2 Cb LC') (hk : Kept [Cb] w w2) : St7 w1 w2 z mb Pb Qb Cb r m1 done LP LQ LC' := by
  obtain ⟨n1, n2, n3, n4, n5, n6⟩ := h.ne
  obtain ⟨g1, g2, g3, g4, g5, g6⟩ := h.ge
  exact ⟨h.it.kept hk (by simp; omega) (by simpa using n6), h.pr.kept hk (by simpa using n2) (fun v n xs ho g hg => by simpa using own_map_ne ho h.cr g hg), h.qr.kept hk (by simpa using n3) (fun v n xs ho g hg => by simpa using own_map_ne ho h.cr g hg), hm,
    h.k.trans hk (fun x hx => .inr (by have := List.mem_singleton.1 hx; omega)), h.ge, h.ne⟩
end
end Go.Proofs.YtghgffhcdnmpnaaGreat
/-
  (*stickyBalanceStrategy).Plan (193), of a group that begins. Conditions: what a plan is told; all members have just the topics; each topic has one to ten thousand different partitions.
-/
namespace Go.Proofs.YtghgffhcdnmpnaaGreat
open Go.RowKit Go.Sort Go.MapKept
/-- A block of cells has been written; what is no map in it is as it was. -/
structure KC (bs : Nat) (a b : World) : Prop where
  k : Kept [bs] a b
  cell : ∀ off v, a.cell? ⟨bs, off, none⟩ = some v → (∀ m, v ≠ .map m) → b.cell? ⟨bs, off, none⟩ = some v
  maps : ∀ off m, a.cell? ⟨bs, off, none⟩ = some (.map m) → ∃ m', b.cell? ⟨bs, off, none⟩ = some (.map m')
  was : ∃ cs T cs', a.heap[bs]? = some (.cells cs T (0, 0)) ∧ b.heap[bs]? = some (.cells cs' T (0, 0)) ∧ (T = 140 ∨ T = 145)
theorem KC.trans0 {bs : Nat} {a b c : World} (h : KC bs a b) (k : Kept [] b c) : KC bs a c := by
  obtain ⟨cs, T, cs', h1, h2, h3⟩ := h.was
  exact ⟨h.k.trans0 k, fun off v hv hm => k.cell (h.cell off v hv hm) (by simp), fun off m hm => by obtain ⟨m', h4⟩ := h.maps off m hm; exact ⟨m', k.cell h4 (by simp)⟩, cs, T, cs', h1, k.heap h2 (by simp), h3⟩
theorem KC.slis {bs : Nat} {a b : World} (h : KC bs a b) {s : Nat} {A : Option Addr} {n : Nat} {xs : List Value} (hs : SlIs a s A n xs) (hx : ∀ v ∈ xs, ∀ m, v ≠ .map m) : SlIs b s A n xs := by
  refine ⟨hs.1, hs.2.1, fun hn => ?_⟩
  obtain ⟨c, off, hA, hc⟩ := hs.2.2 hn
  refine ⟨c, off, hA, fun i v hv => ?_⟩
  by_cases hcb : c = bs
  · subst hcb
    exact h.cell _ _ (hc i v hv) (hx v (List.mem_of_getElem? hv))
  · exact h.k.cell (hc i v hv) (by simpa using hcb)
theorem KC.map {bs : Nat} {a b : World} (h : KC bs a b) {κ : Type} {enc : κ → Value} {c : Nat} {m : List (κ × Value)} (hm : MapIs enc a c m) : MapIs enc b c m := by
  refine hm.kept h.k ?_
  obtain ⟨cs, T, cs', h1, _, _⟩ := h.was
  obtain ⟨es, cl, hb, _⟩ := hm
  intro hh
  rw [List.mem_singleton.1 hh, h1] at hb
  cases hb
theorem KC.slat {bs : Nat} {a b : World} (h : KC bs a b) {X : Nat → Prop} {s : Nat} {v : Value} {xs : List Value} (hs : SlAt a X s v xs) (hx : ∀ v ∈ xs, ∀ m, v ≠ .map m) : SlAt b (fun _ => True) s v xs := by
  obtain ⟨A, n, c, rfl, h1, h2, h3⟩ := hs
  exact ⟨A, n, c, rfl, h.slis h1 hx, fun _ _ _ => trivial, h3⟩
theorem slat_ne {κ : Type} {enc : κ → Value} {w : World} {X : Nat → Prop} {v : Value} {xs : List Value} {mb : Nat} {m : List (κ × Value)} (hs : SlAt w X 1 v xs) (hm : MapIs enc w mb m) : SlAt w (fun x => True ∧ x ≠ mb) 1 v xs := by
  obtain ⟨A, n, c, rfl, h1, h2, h3⟩ := hs
  refine ⟨A, n, c, rfl, h1, fun a ha hn => ⟨trivial, ?_⟩, h3⟩
  obtain ⟨b, off, hA, hc⟩ := h1.2.2 hn
  rw [hA] at ha
  cases ha
  have hl := h1.1
  have h0 := hc 0 xs[0] (by rw [List.getElem?_eq_getElem])
  exact cell_map_ne h0 hm
theorem KC.mm {bs : Nat} {a b : World} (h : KC bs a b) {X : Nat → Prop} {mb : Nat} {l : List (ByteArray × List ByteArray)} (hm : MmAt a X mb l) : ∃ m : List (ByteArray × Value × List ByteArray), MapIs Value.string b mb (m.map fun e => (e.1, e.2.1)) ∧ m.map (fun e => (e.1, e.2.2)) = l ∧ ∀ e ∈ m, isMeta b (fun x => True ∧ x ≠ mb) e.2.1 e.2.2 := by
  obtain ⟨_, m, h1, h2, h3⟩ := hm
  refine ⟨m, h.map h1, h2, fun e he => ?_⟩
  obtain ⟨ver, tv, gen, rp, h4, h5⟩ := h3 e he
  refine ⟨ver, tv, gen, rp, h4, slat_ne (h.slat h5 ?_) (h.map h1)⟩
  intro v hv m' e'
  obtain ⟨x, _, hx⟩ := List.mem_map.1 hv
  rw [← hx] at e'
  cases e'
theorem KC.tm {bs : Nat} {a b : World} (h : KC bs a b) {X : Nat → Prop} {tb : Nat} {tm : List (ByteArray × List Int)} (hm : TmAt a X tb tm) : ∃ m : List (ByteArray × Value × List Int), MapIs Value.string b tb (m.map fun e => (e.1, e.2.1)) ∧ m.map (fun e => (e.1, e.2.2)) = tm ∧ ∀ e ∈ m, SlAt b (fun _ => True) 1 e.2.1 (ints e.2.2) := by
  obtain ⟨_, m, h1, h2, h3⟩ := hm
  refine ⟨m, h.map h1, h2, fun e he => h.slat (h3 e he) ?_⟩
  intro v hv m' e'
  obtain ⟨x, _, hx⟩ := List.mem_map.1 hv
  rw [← hx] at e'
  cases e'
/-- What the strategies are told. -/
structure PreS (l : List (ByteArray × List ByteArray)) (tm : List (ByteArray × List Int)) : Prop where
  one : 1 ≤ tm.length
  tops : ∀ x ∈ tm, 1 ≤ x.2.length ∧ x.2.length ≤ 10000 ∧ x.2.Nodup
  all : ∀ p ∈ l, p.2.Perm (tm.map Prod.fst)
/-- Who has what, one by one. -/
def seqOf (L : List (ByteArray × List TP)) : List (ByteArray × ByteArray × Int) := L.flatMap fun e => e.2.map fun x => (e.1, x.1, x.2)
/-- What the sticky strategies give. -/
def GoodSt (l : List (ByteArray × List ByteArray)) (tm : List (ByteArray × List Int)) (F : ByteArray → ByteArray → List Int) : Prop :=
  ∃ L : List (ByteArray × List TP), (L.map Prod.fst).Perm (l.map Prod.fst) ∧ (given L).Perm (pairsOf tm) ∧ Even L ∧ F = gives (seqOf L)
set_option maxRecDepth 100000 in
theorem store138 {w : World} {bs : Nat} {cs : Array Value} {T : TypeId} (x y : Nat) (h : w.heap[bs]? = some (.cells cs T (0, 0))) (h2 : 2 ≤ cs.size) (hc : ∀ o, o < 2 → ∃ m, cs[o]? = some (.map m)) (hT : T = 140 ∨ T = 145) :
    ∃ w', (storeVar 138 ⟨bs, 0, none⟩ (.agg #[.map (some x), .map (some y)])).run Tryz.prog w = .ok () w' ∧ KC bs w w' := by
  have hi : (Tryz.prog.info? 138).map (·.size) = some 2 := by kernel_rfl
  have hst := run_storeCells_at (P := Tryz.prog) bs 0 T [.map (some x), .map (some y)] 0 cs w h (by simp; omega) (by intro v hv; simp at hv; rcases hv with rfl | rfl <;> rfl)
  obtain ⟨new, hnew⟩ : ∃ new, (cs.toList.take (0 + 0) ++ ([Value.map (some x), .map (some y)] ++ cs.toList.drop (0 + 0 + [Value.map (some x), Value.map (some y)].length))).toArray = new := ⟨_, rfl⟩
  rw [hnew] at hst
  refine ⟨w.setRow bs new, ?_, (Kept.refl _ _).setRow (.inl (by simp)) _, fun off v hv hm => ?_, fun off m hm => ?_, cs, T, new, h, setRow_heap w bs cs new T _ h, hT⟩
  · cases hq : Tryz.prog.info? 138 with
    | none => simp [hq] at hi
    | some i =>
      have hs2 : i.size = 2 := by simpa [hq] using hi
      simp [storeVar, Sem.run_bind, sizeOf, typeInfo, hq, hs2, Value.cells, hst]
  · rw [cell_of_row _ _ _ _ _ _ h] at hv
    rw [cell_of_row _ _ _ _ _ _ (setRow_heap w bs cs new T _ h), ← hnew]
    rcases Nat.lt_or_ge off 2 with ho | ho
    · obtain ⟨m, hm'⟩ := hc off ho
      rw [hm'] at hv
      exact absurd (Option.some.inj hv).symm (hm m)
    · simp only [Nat.add_zero, List.take_zero, List.nil_append, List.length_cons, List.length_nil, List.getElem?_toArray]
      rw [List.getElem?_append_right (by simpa using ho)]
      simp only [List.length_cons, List.length_nil, List.getElem?_drop, Array.getElem?_toList]
      rw [← hv]
      congr 1
      omega
  · rw [cell_of_row _ _ _ _ _ _ h] at hm
    rw [cell_of_row _ _ _ _ _ _ (setRow_heap w bs cs new T _ h), ← hnew]
    match off with
    | 0 => exact ⟨some x, by simp⟩
    | 1 => exact ⟨some y, by simp⟩
    | o + 2 =>
      refine ⟨m, ?_⟩
      simp only [Nat.add_zero, List.take_zero, List.nil_append, List.length_cons, List.length_nil, List.getElem?_toArray]
      rw [List.getElem?_append_right (by simp)]
      simp only [List.length_cons, List.length_nil, List.getElem?_drop, Array.getElem?_toList]
      rw [← hm]
      congr 1
      omega
theorem map_walked {α β : Type} (f : α → β) (l : List α) : ∀ done : List Nat, (walked l done).map f = walked (l.map f) done
  | [] => rfl
  | i :: done => by
    have ih := map_walked f l done
    unfold walked at ih ⊢
    simp only [List.filterMap_cons, List.getElem?_map]
    cases l[i]? with
    | none => simpa using ih
    | some x => simpa using ih
theorem pairsOf_nodup : ∀ {L : List (ByteArray × List Int)}, (L.map Prod.fst).Nodup → (∀ x ∈ L, x.2.Nodup) → (pairsOf L).Nodup
  | [], _, _ => List.nodup_nil
  | x :: L, hn, hl => by
    have hn' := List.nodup_cons.1 (show (x.1 :: L.map Prod.fst).Nodup from hn)
    have ih := pairsOf_nodup hn'.2 (fun y hy => hl y (.tail _ hy))
    rw [show pairsOf (x :: L) = (x.2.map fun p => (x.1, p)) ++ pairsOf L by simp [pairsOf], List.nodup_append]
    refine ⟨?_, ih, fun a ha b hb e => ?_⟩
    · have := hl x (.head _)
      exact List.Pairwise.map _ (fun a b hab e => hab (by injection e)) this
    · obtain ⟨p, _, rfl⟩ := List.mem_map.1 ha
      rw [← e] at hb
      obtain ⟨y, hy, hb2⟩ := List.mem_flatMap.1 hb
      obtain ⟨q, _, hq⟩ := List.mem_map.1 hb2
      have hyx : y.1 = x.1 := (Prod.mk.inj hq).1
      exact hn'.1 (List.mem_map.2 ⟨y, hy, hyx⟩)
theorem pairs_fresh {L : List (ByteArray × List Int)} {t : ByteArray} {ps : List Int} {j : Nat} {x : Int} (hn : ((L ++ [(t, ps)]).map Prod.fst).Nodup) (hl : ∀ y ∈ L ++ [(t, ps)], y.2.Nodup) (hx : ps[j]? = some x) : (t, x) ∉ pairsOf L ++ (ps.take j).map fun p => (t, p) := by
  have h := pairsOf_nodup hn hl
  rw [pairsOf_snoc] at h
  obtain ⟨h1, h2⟩ := List.getElem?_eq_some_iff.1 hx
  have h3 : ps = ps.take j ++ x :: ps.drop (j + 1) := by rw [← h2, ← List.drop_eq_getElem_cons h1, List.take_append_drop]
  have h4 : (ps.map fun p => (t, p)) = ((ps.take j).map fun p => (t, p)) ++ (t, x) :: ((ps.drop (j + 1)).map fun p => (t, p)) := by
    conv => lhs; rw [h3]
    rw [List.map_append, List.map_cons]
  rw [show ((t, ps) : ByteArray × List Int).2 = ps from rfl, show ((t, ps) : ByteArray × List Int).1 = t from rfl, h4, ← List.append_assoc] at h
  intro hm
  exact (List.nodup_append.1 h).2.2 _ hm _ (.head _) rfl
/-- The pairs are those, and each could go to d members, and to one more if it is in Q. -/
def CntP (U : List TP) (d : Nat) (Q : List TP) (LP : List (TP × Nat × List Value)) : Prop := LP.map Prod.fst = U ∧ ∀ x ∈ LP, x.2.1 = d + (if x.1 ∈ Q then 1 else 0)
theorem CntP.step {U : List TP} {d : Nat} {Q : List TP} {LP : List (TP × Nat × List Value)} (h : CntP U d Q LP) {k : TP} (hk : k ∉ Q) {n0 : Nat} {xs0 : List Value} (hm : (k, n0, xs0) ∈ LP) (xs : List Value) : n0 = d ∧ CntP U d (Q ++ [k]) (LP.map fun y => if y.1 = k then (k, n0 + 1, xs) else y) := by
  have h0 : n0 = d := by
    have h1 := h.2 _ hm
    rw [if_neg hk] at h1
    exact h1
  refine ⟨h0, ?_, fun y hy => ?_⟩
  · rw [← h.1, List.map_map]
    refine List.map_congr_left fun y _ => ?_
    simp only [Function.comp_def]
    split
    · rename_i hh; exact hh.symm
    · rfl
  · obtain ⟨x, hx, rfl⟩ := List.mem_map.1 hy
    by_cases hxk : x.1 = k
    · rw [if_pos hxk]
      simp [h0]
    · rw [if_neg hxk, h.2 x hx]
      simp [hxk]
theorem CntP.done {U : List TP} {d : Nat} {Q : List TP} {LP : List (TP × Nat × List Value)} (h : CntP U d Q LP) (hq : Q.Perm U) : CntP U (d + 1) [] LP := by
  refine ⟨h.1, fun x hx => ?_⟩
  have h1 : x.1 ∈ Q := hq.mem_iff.2 (by rw [← h.1]; exact List.mem_map.2 ⟨x, hx, rfl⟩)
  rw [h.2 x hx, if_pos h1]
  simp
theorem lq_step {α : Type} {L : List (ByteArray × α)} {k : ByteArray} (hk : k ∉ L.map Prod.fst) (a b : α) : (L ++ [(k, a)]).map (fun x => if x.1 = k then (k, b) else x) = L ++ [(k, b)] := by
  rw [List.map_append]
  congr 1
  · conv => rhs; rw [← List.map_id L]
    refine List.map_congr_left fun x hx => ?_
    rw [if_neg (fun h => hk (by rw [← h]; exact List.mem_map.2 ⟨x, hx, rfl⟩))]
    rfl
  · simp
/-- The pairs of a topic. -/
def pairsT (tm : List (ByteArray × List Int)) (t : ByteArray) : List TP := (tget tm t).map fun p => (t, p)
theorem tget_memS : ∀ {tm : List (ByteArray × List Int)}, (tm.map Prod.fst).Nodup → ∀ {t ps}, (t, ps) ∈ tm → tget tm t = ps
  | [], _, t, ps, h => by cases h
  | p :: tm, hn, t, ps, h => by
    have hn' := List.nodup_cons.1 (show (p.1 :: tm.map Prod.fst).Nodup from hn)
    rcases List.mem_cons.1 h with rfl | h
    · simp [tget]
    · have : p.1 ≠ t := fun e => hn'.1 (by rw [e]; exact List.mem_map.2 ⟨(t, ps), h, rfl⟩)
      simp [tget, this, tget_memS hn'.2 h]
theorem pairsT_perm {tm : List (ByteArray × List Int)} {tops : List ByteArray} (hn : (tm.map Prod.fst).Nodup) (h : tops.Perm (tm.map Prod.fst)) : (tops.flatMap (pairsT tm)).Perm (pairsOf tm) := by
  refine (h.flatMap_right _).trans ?_
  rw [List.flatMap_map]
  have : tm.flatMap (fun a => pairsT tm a.1) = pairsOf tm := by
    unfold pairsOf
    rw [List.flatMap_def, List.flatMap_def]
    congr 1
    refine List.map_congr_left fun x hx => ?_
    unfold pairsT
    rw [tget_memS hn (show (x.1, x.2) ∈ tm from hx)]
  rw [this]
theorem flat_take_fresh {tm : List (ByteArray × List Int)} {tops : List ByteArray} (hn : (tm.map Prod.fst).Nodup) (hl : ∀ x ∈ tm, x.2.Nodup) (h : tops.Perm (tm.map Prod.fst)) {i : Nat} {t : ByteArray} (ht : tops[i]? = some t) {j : Nat} {x : Int} (hx : (tget tm t)[j]? = some x) :
    (t, x) ∉ (tops.take i).flatMap (pairsT tm) ++ ((tget tm t).take j).map fun p => (t, p) := by
  have hnd : (tops.flatMap (pairsT tm)).Nodup := (pairsT_perm hn h).symm.nodup (pairsOf_nodup hn hl)
  obtain ⟨h1, h2⟩ := List.getElem?_eq_some_iff.1 ht
  obtain ⟨h3, h4⟩ := List.getElem?_eq_some_iff.1 hx
  have e1 : tops = tops.take i ++ t :: tops.drop (i + 1) := by rw [← h2, ← List.drop_eq_getElem_cons h1, List.take_append_drop]
  have e2 : tget tm t = (tget tm t).take j ++ x :: (tget tm t).drop (j + 1) := by rw [← h4, ← List.drop_eq_getElem_cons h3, List.take_append_drop]
  have e3 : pairsT tm t = (((tget tm t).take j).map fun p => (t, p)) ++ (t, x) :: (((tget tm t).drop (j + 1)).map fun p => (t, p)) := by
    unfold pairsT
    conv => lhs; rw [e2]
    rw [List.map_append, List.map_cons]
  rw [e1, List.flatMap_append, List.flatMap_cons, e3, List.append_assoc, ← List.append_assoc, List.cons_append] at hnd
  intro hm
  exact (List.nodup_append.1 hnd).2.2 _ hm _ (.head _) rfl
theorem not_walked {α : Type} {l : List α} (hl : l.Nodup) {i : Nat} {x : α} {done : List Nat} (hi : l[i]? = some x) (hn : (done ++ [i]).Nodup) : x ∉ walked l done := by
  intro h
  obtain ⟨j, hj, hx⟩ := List.mem_filterMap.1 h
  have : j = i := nodup_idx hl hx hi
  exact (List.nodup_append.1 hn).2.2 j hj i (.head _) this
/-- The slice that stands for a topic. -/
theorem topic_get {w : World} {X : Nat → Prop} {m : List (ByteArray × Value × List Int)} (hmv : ∀ e ∈ m, SlAt w X 1 e.2.1 (ints e.2.2)) (hn : ((m.map fun e => (e.1, e.2.1)).map Prod.fst).Nodup) {t : ByteArray} (ht : t ∈ (m.map fun e => (e.1, e.2.2)).map Prod.fst) :
    ∃ A c, mget (m.map fun e => (e.1, e.2.1)) t = some (.slice A (tget (m.map fun e => (e.1, e.2.2)) t).length c) ∧ SlIs w 1 A (tget (m.map fun e => (e.1, e.2.2)) t).length (ints (tget (m.map fun e => (e.1, e.2.2)) t)) := by
  obtain ⟨⟨t', ps⟩, he2, rfl⟩ := List.mem_map.1 ht
  obtain ⟨e, he, heq⟩ := List.mem_map.1 he2
  have hnn : ((m.map fun e => (e.1, e.2.2)).map Prod.fst).Nodup := by simpa [List.map_map, Function.comp_def] using hn
  have hget := tget_memS hnn he2
  simp only at hget ⊢
  rw [hget]
  obtain ⟨A, n, c, hv, h1, _⟩ := hmv e he
  obtain ⟨e1, ev, e3⟩ := e
  simp only [Prod.mk.injEq] at heq
  obtain ⟨rfl, rfl⟩ := heq
  simp only at hv h1
  have hnl : n = e3.length := by have := h1.1; simpa [ints] using this.symm
  subst hnl
  refine ⟨A, c, ?_, h1⟩
  rw [← hv]
  exact mget_of_mem hn (List.mem_map.2 ⟨_, he, rfl⟩)
end Go.Proofs.YtghgffhcdnmpnaaGreat
