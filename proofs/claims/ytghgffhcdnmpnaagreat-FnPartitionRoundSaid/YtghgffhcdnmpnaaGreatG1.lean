/-
  Round robin through partitions: the package's partitioner, and PartitionRound of the thin package. Conditions: at most 100 numbers, each from 1 on.
-/
import Derived.Test.YtghgffhcdnmpnaaGreatC21
namespace Go.Proofs.YtghgffhcdnmpnaaGreat
open Go.RowKit Go.Sort
/-- One step: what is handed out, and what comes next. -/
def rrF (p : Int × List Int) (x : Int) : Int × List Int := if x ≤ p.1 then (1, p.2 ++ [0]) else (p.1 + 1, p.2 ++ [p.1])
def rr (l : List Int) : Int × List Int := l.foldl rrF (0, [])
theorem rr_in : ∀ (l : List Int) (p : Int × List Int), 0 ≤ p.1 → 0 ≤ (l.foldl rrF p).1 ∧ (l.foldl rrF p).1 ≤ p.1 + l.length ∧ (l.foldl rrF p).2.length = p.2.length + l.length
  | [], p, h => ⟨h, by simp, by simp⟩
  | x :: l, p, h => by
    have := rr_in l (rrF p x) (by unfold rrF; split <;> simp <;> omega)
    have h2 : (rrF p x).1 ≤ p.1 + 1 := by unfold rrF; split <;> simp <;> omega
    have h3 : (rrF p x).2.length = p.2.length + 1 := by unfold rrF; split <;> simp
    rw [List.foldl_cons, List.length_cons]
    refine ⟨this.1, ?_, ?_⟩
    · have := this.2.1; simp only [Int.natCast_add, Int.natCast_one]; omega
    · have := this.2.2; omega
theorem rr_snoc {l : List Int} {k : Nat} {y : Int} (h : l[k]? = some y) : rr (l.take (k + 1)) = rrF (rr (l.take k)) y := foldl_snoc rrF (0, []) h
def rrObj (at' : Int) : Obj := .cells #[.int .i32 at'] 112
theorem rrPart_any (g : Nat) (a n : Int) (m : Value) (w : World) (h : w.heap[g]? = some (rrObj a)) (h0 : 0 ≤ a) (h1 : a ≤ 100) (_hn : 1 ≤ n) :
    Calls Tryz.prog 135 #[.pointer (some ⟨g, 0, none⟩), m, .int .i32 n] w fun e w' => e = .returned (.tuple #[.int .i32 (if n ≤ a then 0 else a), .nilIface]) ∧ w'.heap[g]? = some (rrObj (if n ≤ a then 1 else a + 1)) ∧ Kept [g] w w' := by
  have hc : ∀ (W : World) (b : Int), W.heap[g]? = some (rrObj b) → W.cell? ⟨g, 0, none⟩ = some (.int .i32 b) ∧ W.frozen? ⟨g, 0, none⟩ = false := fun W b hb => by simp [World.cell?, World.frozen?, hb, rrObj]
  have hset : ∀ (W : World) (b d : Int), W.heap[g]? = some (rrObj b) → (W.setCell ⟨g, 0, none⟩ (.int .i32 d)).heap[g]? = some (rrObj d) := fun W b d hb => by
    rw [heap_setCell_same _ _ _ _ _ _ hb]; rfl
  have HS := Lib.hid hset
  have H := Lib.hid h
  obtain ⟨h2, h3⟩ := hc w a h
  obtain ⟨h4, h5⟩ := hc _ 0 (hset w a 0 h)
  clear h hset hc
  by_cases hle : n ≤ a
  · rw [if_pos hle, if_pos hle]
    go_enter Tryz.func135, Tryz.ntmps135
    go_wp2
    go_ret2
    exact ⟨rfl, HS.out _ 0 1 (HS.out _ a 0 H.out), ((Kept.refl _ _).setCell (.inl (by simp)) _).setCell (.inl (by simp)) _⟩
  · rw [if_neg hle, if_neg hle]
    go_enter Tryz.func135, Tryz.ntmps135
    go_wp2
    go_ret2
    exact ⟨rfl, HS.out _ a _ H.out, (Kept.refl _ _).setCell (.inl (by simp)) _⟩
theorem newRR_any (s : Value) (w : World) : Calls Tryz.prog 51 #[s] w fun e w' => e = .returned (.iface 110 (.pointer (some ⟨w.heap.size, 0, none⟩))) ∧ w' = w.alloc (rrObj 0) := by
  go_enter Tryz.func51, Tryz.ntmps51
  go_wp2
  go_ret
  exact ⟨rfl, rfl⟩
theorem ints_get {l : List Int} {k : Nat} {y : Int} (h : l[k]? = some y) : (ints l)[k]? = some (.int .i32 y) := by simp [ints, h]
theorem sl_apart {w : World} {s : Nat} {A : Option Addr} {n : Nat} {l : List Int} {g : Nat} {x : Value} {T : TypeId} (h : SlIs w s A n (ints l)) (hs : 0 < s) (hg : w.heap[g]? = some (.cells #[x] T (0, 0))) (hx : ∀ i : Int, x ≠ .int .i32 i) : ∀ a, A = some a → 0 < n → a.block ≠ g := by
  rintro a ha hn rfl
  obtain ⟨b, off, hA, hc⟩ := h.2.2 hn
  rw [hA] at ha
  cases ha
  have hl : (ints l).length = l.length := by simp [ints]
  have hlen := h.1
  have hpos : 0 < l.length := by rw [hl] at hlen; rw [hlen]; exact Nat.mul_pos hn hs
  obtain ⟨y, hy⟩ : ∃ y, l[0]? = some y := ⟨_, List.getElem?_eq_getElem hpos⟩
  have := hc 0 _ (ints_get hy)
  simp only [World.cell?, hg] at this
  rcases Nat.eq_zero_or_pos (off + 0) with e | e
  · rw [e] at this
    have h5 : some x = some (Value.int .i32 y) := by simpa using this
    exact hx y (Option.some.inj h5)
  · rw [Array.getElem?_eq_none (by simp; omega)] at this
    cases this
set_option maxRecDepth 100000 in
set_option maxHeartbeats 3200000 in
/-- The closure of PartitionRound. -/
theorem rrClosure (bn bl : Nat) (A : Option Addr) (c : Nat) (l : List Int) (w : World) (hn : w.cell? ⟨bn, 0, none⟩ = some (.slice A l.length c)) (hl : w.heap[bl]? = some (.cells #[.slice none 0 0] 49 (0, 0))) (hs : SlIs w 1 A l.length (ints l)) (hlen : l.length ≤ 100) (hpos : ∀ x ∈ l, 1 ≤ x) :
    Calls Tryz.prog 50 #[.pointer (some ⟨bn, 0, none⟩), .pointer (some ⟨bl, 0, none⟩)] w fun e w' => e = .returned (.tuple #[]) ∧ ∃ v, w'.heap[bl]? = some (.cells #[v] 49 (0, 0)) ∧ w'.ownsRow w.heap.size 21 1 v l.length (ints (rr l).2) ∧ Kept [bl] w w' := by
  have HN := Lib.hid hn
  have HL := Lib.hid hl
  have HS := Lib.hid hs
  have HAP := Lib.hid (sl_apart hs (by omega) hl (by simp))
  have hbl := (Array.getElem?_eq_some_iff.1 hl).1
  have H51 := Lib.hid (fun s => newRR_any s w)
  clear hn hl hs
  go_enter Tryz.func50, Tryz.ntmps50
  have hcn : (w.alloc (rrObj 0)).cell? ⟨bn, 0, none⟩ = some (.slice A l.length c) := ((Kept.refl [] w).alloc _).cell HN.out (by simp)
  go_wp2_with (with_reducible refine (H51.out _).mono ?_; rintro e w1 ⟨rfl, rfl⟩)
  clear hcn
  obtain ⟨z, hz⟩ : ∃ z, w.heap.size = z := ⟨_, rfl⟩
  rw [hz]
  have hmP : ∀ (rv : Value) (w : World), (method 518 110 rv "Partition").run Tryz.prog w = .ok (135, rv) w := fun _ _ => by kernel_rfl
  go_loopw [10] (fun i wr => ∃ (k : Nat) (v : Value), k ≤ l.length ∧ i = .int .i64 k ∧ wr.heap[bl]? = some (.cells #[v] 49 (0, 0)) ∧ wr.ownsRow (z + 1) 21 1 v k (ints (rr (l.take k)).2) ∧ wr.heap[z]? = some (rrObj (rr (l.take k)).1) ∧ Kept [bl] w wr) (fun i _ => l.length - (intOf i).toNat)
  case atStart =>
    refine ⟨0, _, Nat.zero_le _, rfl, ((Kept.refl [] w).alloc _).heap HL.out (by simp), World.ownsRow_nil _ _ _ _, ?_, (Kept.refl _ _).alloc _⟩
    rw [← hz]
    exact heap_alloc_new _ _
  case round =>
    obtain ⟨k, v, hk, rfl, hbv, hov, hrr, hkr⟩ := hrel
    have hin := rr_in (l.take k) (0, []) (by simp)
    have hlen2 : (l.take k).length = k := by rw [List.length_take]; omega
    change 0 ≤ (rr (l.take k)).1 ∧ (rr (l.take k)).1 ≤ 0 + _ ∧ (rr (l.take k)).2.length = 0 + _ at hin
    rw [hlen2] at hin
    obtain ⟨a, ha⟩ : ∃ a, (rr (l.take k)).1 = a := ⟨_, rfl⟩
    rw [ha] at hin hrr
    obtain ⟨hin0, hin1, hin2⟩ := hin
    have HBV := Lib.hid hbv
    have HOV := Lib.hid hov
    have HRR := Lib.hid hrr
    have HKR := Lib.hid hkr
    have HA := Lib.hid ha
    have hzlt : z < wr.heap.size := (Array.getElem?_eq_some_iff.1 hrr).1
    clear hbv hov hrr hkr ha
    by_cases hlt : k < l.length
    · obtain ⟨b, off, rfl, hcc⟩ := HS.out.2.2 (by omega)
      obtain ⟨y, hy⟩ : ∃ y, l[k]? = some y := ⟨_, List.getElem?_eq_getElem hlt⟩
      have hcell : wr.cell? ⟨b, off + k, none⟩ = some (.int .i32 y) := HKR.out.cell (hcc k _ (ints_get hy)) (by simpa using HAP.out _ rfl (by omega))
      have hy1 := hpos y (List.mem_of_getElem? hy)
      have hstep := rr_snoc hy
      have HST : Hid ((rr (l.take (k + 1))).1 = (if y ≤ a then 1 else a + 1) ∧ (rr (l.take (k + 1))).2 = (rr (l.take k)).2 ++ [if y ≤ a then 0 else a]) := by
        rw [hstep, rrF, HA.out]
        by_cases h : y ≤ a
        · rw [if_pos h, if_pos h, if_pos h]; exact ⟨rfl, rfl⟩
        · rw [if_neg h, if_neg h, if_neg h]; exact ⟨rfl, rfl⟩
      obtain ⟨r, hr⟩ : ∃ r, (if y ≤ a then (0 : Int) else a) = r := ⟨_, rfl⟩
      have HP := Lib.hid (fun (W : World) (m : Value) (hW : Kept [] wr W) => rrPart_any z a y m W (hW.heap HRR.out (by simp)) hin0 (by omega) hy1)
      rw [hr] at HP HST
      clear hcc hy hstep hr
      go_wp2_with (first | (with_reducible refine (HP.out _ _ ((Kept.refl _ _).alloc _)).mono ?_; rintro e w1 ⟨rfl, hg1, hk1⟩; have HG1 := Lib.hid hg1; have HK1 := Lib.hid (((Kept.refl [] wr).alloc _).mono (T := [z]) (by simp) |>.trans hk1 (fun x hx => .inl hx)); have hb1 := HK1.out.heap HBV.out (by simp; omega); have HB1 := Lib.hid hb1; have hcb1 : w1.cell? ⟨bl, 0, none⟩ = some v := (by simp [World.cell?, hb1]); clear hg1 hk1 hb1) | (at_builtin; refine wl_append rfl _ _ 49 rfl (z + 1) 21 Tryz.underlying49 info21 rfl (by decide) v k (ints (rr (l.take k)).2) rfl (own_kept0 (HK1.out.own HOV.out (fun g hg hm => by have h1 := own_ge HOV.out g hg; have h2 := List.mem_singleton.1 hm; omega)) ((Kept.refl _ _).alloc _)) (some ⟨w1.heap.size, 0, none⟩) 1 1 [.int .i32 r] rfl (one_sl2 _ _ _ rfl) (by simp [Value.oneCell']) (by omega) (by omega) (by have := HK1.out.size; simp; omega) ?_; intro v2 w2 hown2 hk2 _; obtain ⟨A2, c2, rfl⟩ := own_form hown2; have HO2 := Lib.hid hown2; have HK2 := Lib.hid (((Kept.refl [] w1).alloc _).mono (T := v.ownBlock.toList) (by simp) |>.trans hk2 (fun x hx => .inl hx)); have hb2 := HK2.out.heap HB1.out (fun hm => by have h1 := own_ge HOV.out bl (by simpa using hm); omega); have HB2 := Lib.hid hb2; have hcb2 : w2.cell? ⟨bl, 0, none⟩ = some v := (by simp [World.cell?, hb2]); have hfb2 : w2.frozen? ⟨bl, 0, none⟩ = false := (by simp [World.frozen?, hb2]); clear hown2 hk2 hb2))
      have hb3 := heap_setCell_same w2 bl 0 _ 49 (.slice A2 (k + 1) c2) HB2.out
      have hk3 : Kept [bl] w2 (w2.setCell ⟨bl, 0, none⟩ (.slice A2 (k + 1) c2)) := (Kept.refl _ _).setCell (.inl (by simp)) _
      have ho3 := hk3.own HO2.out (fun g hg hm => by have h1 := own_ge HO2.out g hg; have h2 := List.mem_singleton.1 hm; omega)
      have hz2 := hk3.heap (HK2.out.heap HG1.out (fun hm => by have h1 := own_ge HOV.out z (by simpa using hm); omega)) (fun hm => by have h2 := List.mem_singleton.1 hm; omega)
      have hkf : Kept [bl] w (w2.setCell ⟨bl, 0, none⟩ (.slice A2 (k + 1) c2)) := ((HKR.out.trans HK1.out (fun x hx => .inr (by have h2 := List.mem_singleton.1 hx; omega))).trans HK2.out (fun x hx => .inr (by have h1 := own_ge HOV.out x (by simpa using hx); omega))).trans hk3 (fun x hx => .inl hx)
      go_roundw
      case rel =>
        refine ⟨k + 1, _, by omega, by go_num, hb3, ?_, ?_, hkf⟩
        · rw [HST.out.2, show ints ((rr (l.take k)).2 ++ [r]) = ints (rr (l.take k)).2 ++ [Value.int .i32 r] by simp [ints]]
          exact ho3
        · rw [HST.out.1]
          exact hz2
      case measure => simp [intOf]; omega
    · go_wp2
      refine bodyPost_end (results_none rfl _ _ _) rfl ⟨rfl, v, HBV.out, ?_, HKR.out⟩
      have e : k = l.length := by omega
      have := HOV.out
      rw [e, List.take_length] at this
      exact own_mono this (by omega)
end Go.Proofs.YtghgffhcdnmpnaaGreat
