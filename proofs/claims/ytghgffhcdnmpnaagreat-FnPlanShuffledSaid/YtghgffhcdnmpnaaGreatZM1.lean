/-
  Holder, kept: who has a partition in a plan; whether a member keeps what it has. Conditions: each partition that is asked for is had, by one member alone.
-/
import Derived.Test.YtghgffhcdnmpnaaGreatZF1
import Derived.Test.YtghgffhcdnmpnaaGreatZF5a
namespace Go.Proofs.YtghgffhcdnmpnaaGreat
open Go.RowKit Go.Sort
/-- In a plan a partition is had by a member, and by no other. -/
structure Has (P : List Sh) (m t : ByteArray) (p : Int) : Prop where
  some' : ∃ x ∈ P, x.top = t ∧ p ∈ x.parts
  only : ∀ x ∈ P, x.top = t → p ∈ x.parts → x.mem = m
set_option maxRecDepth 100000 in
set_option maxHeartbeats 1600000 in
theorem holder_any (X : Nat → Prop) (pv : Value) (P : List Sh) (m t : ByteArray) (p : Int) (w : World) (hP : ShsAt w X pv P) (h : Has P m t p) :
    Calls Tryz.prog 49 #[pv, .string t, .int .i32 p] w fun e w' => e = .returned (.tuple #[.string m, .bool true]) ∧ w = w' := by
  obtain ⟨la, rfl, ⟨A, n, c, rfl, hsa, _, _⟩, hpa⟩ := hP
  have hna : la.length = n := by have := hsa.1; rw [flat_len shCells 3 (fun _ => rfl)] at this; omega
  have HA := Lib.hid hsa
  have HPA := Lib.hid hpa
  have HNA := Lib.hid hna
  have HH := Lib.hid h
  have h63 := hsa.2.1
  clear hsa hpa hna h
  go_enter Tryz.func49, Tryz.ntmps49
  go_wp2
  go_loop [8] (fun i => ∃ k : Nat, k ≤ n ∧ i = .int .i64 k ∧ ∀ q y, q < k → la[q]? = some y → y.1.top = t → p ∉ y.1.parts) (fun i => n - (intOf i).toNat)
  case atStart => exact ⟨0, Nat.zero_le _, rfl, fun q y h => absurd h (by omega)⟩
  case round =>
    obtain ⟨k, hk, rfl, hno⟩ := hrel
    have HNO := Lib.hid hno
    clear hno
    by_cases hlt : k < n
    · obtain ⟨x, hx⟩ : ∃ x, la[k]? = some x := ⟨_, List.getElem?_eq_getElem (by have := HNA.out; omega)⟩
      obtain ⟨b1, o1, rfl, hc1⟩ := HA.out.2.2 (by omega)
      obtain ⟨A3, n3, c3, h3, hs3, _, _⟩ := HPA.out x (List.mem_of_getElem? hx)
      have ep := sh_cells hc1 hx
      obtain ⟨⟨xm, xt, xp⟩, xv⟩ := x
      simp only at h3 hs3 ep
      subst h3
      have hn3 : n3 = xp.length := by have := hs3.1; simpa [ints] using this.symm
      have e0 : w.cell? ⟨b1, o1 + k * 3, none⟩ = some (.string xm) := ep 0 _ rfl
      have e1 : w.cell? ⟨b1, o1 + k * 3 + 1, none⟩ = some (.string xt) := ep 1 _ rfl
      have e2 : w.cell? ⟨b1, o1 + k * 3 + 2, none⟩ = some (.slice A3 n3 c3) := ep 2 _ rfl
      have h363 := hs3.2.1
      have HX := Lib.hid hx
      have HS3 := Lib.hid hs3
      have HN3 := Lib.hid hn3
      clear hc1 ep hx hs3 hn3
      go_wp2
      go_loop [9] (fun i => ∃ j : Nat, j ≤ n3 ∧ i = .int .i64 j ∧ (xt = t → p ∉ xp.take j)) (fun i => n3 - (intOf i).toNat)
      case atStart => exact ⟨0, Nat.zero_le _, rfl, by simp⟩
      case round =>
        obtain ⟨j, hj, rfl, hnj⟩ := hrel
        have HNJ := Lib.hid hnj
        clear hnj
        by_cases hlj : j < n3
        · obtain ⟨u, hu⟩ : ∃ u, xp[j]? = some u := ⟨_, List.getElem?_eq_getElem (by have := HN3.out; omega)⟩
          obtain ⟨b3, o3, rfl, hc3⟩ := HS3.out.2.2 (by omega)
          have e3 : w.cell? ⟨b3, o3 + j, none⟩ = some (.int .i32 u) := hc3 j _ (ints_at hu)
          have HU := Lib.hid hu
          clear hc3 hu
          by_cases ht : xt = t
          · have HT := Lib.hid ht
            have hbt : (xt.toList == t.toList) = true := by rw [ht]; exact beq_self
            clear ht
            by_cases hp : u = p
            · have hbu : (u == p) = true := by simpa using hp
              have HP := Lib.hid hp
              clear hp
              go_wp2
              go_ret2
              have hm : xm = m := HH.out.only ⟨xm, xt, xp⟩ (List.mem_map.2 ⟨_, List.mem_of_getElem? HX.out, rfl⟩) HT.out (by show p ∈ xp; rw [← HP.out]; exact List.mem_of_getElem? HU.out)
              exact ⟨by rw [hm]; rfl, rfl⟩
            · have hbu : (u == p) = false := by simpa using hp
              have HP := Lib.hid hp
              clear hp
              go_wp2
              go_round
              case rel => exact ⟨j + 1, by omega, by go_num, fun h => by
                rw [take_one HU.out]
                intro hm
                rcases List.mem_append.1 hm with hm | hm
                · exact HNJ.out h hm
                · exact HP.out (List.mem_singleton.1 hm).symm⟩
              case measure => (simp [intOf]) <;> omega
          · have HT := Lib.hid ht
            have hbt : (xt.toList == t.toList) = false := beq_ne ht
            clear ht
            go_wp2
            go_round
            case rel => exact ⟨j + 1, by omega, by go_num, fun h => absurd h HT.out⟩
            case measure => (simp [intOf]) <;> omega
        · go_wp2
          go_round
          case rel =>
            refine ⟨k + 1, by omega, by go_num, fun q y hq hy ht => ?_⟩
            rcases Nat.lt_or_ge q k with h | h
            · exact HNO.out q y h hy ht
            · obtain rfl : q = k := by omega
              have e : y = (⟨xm, xt, xp⟩, .slice A3 n3 c3) := Option.some.inj (hy.symm.trans HX.out)
              subst e
              have h1 := HNJ.out ht
              rwa [List.take_of_length_le (by have := HN3.out; omega)] at h1
          case measure => (simp [intOf]) <;> omega
    · exfalso
      obtain ⟨x, hx, ht, hp⟩ := HH.out.some'
      obtain ⟨y, hy, rfl⟩ := List.mem_map.1 hx
      obtain ⟨q, hq⟩ := List.getElem?_of_mem hy
      exact HNO.out q y (by have h1 := (List.getElem?_eq_some_iff.1 hq).1; have h2 := HNA.out; omega) hq ht hp
set_option maxRecDepth 100000 in
set_option maxHeartbeats 1600000 in
theorem kept_any (X Y : Nat → Prop) (av bv : Value) (P P' : List Sh) (m : ByteArray) (w : World) (ha : ShsAt w X av P) (hb : ShsAt w Y bv P') (h : ∀ x ∈ P, x.mem = m → ∀ p ∈ x.parts, Has P' m x.top p) :
    Calls Tryz.prog 26 #[.string m, av, bv] w fun e w' => e = .returned (.bool true) ∧ Kept [] w w' := by
  obtain ⟨la, rfl, ⟨A, n, c, rfl, hsa, _, _⟩, hpa⟩ := ha
  have hna : la.length = n := by have := hsa.1; rw [flat_len shCells 3 (fun _ => rfl)] at this; omega
  have HA := Lib.hid hsa
  have HPA := Lib.hid hpa
  have HNA := Lib.hid hna
  have HH := Lib.hid h
  have HB := Lib.hid hb
  have h63 := hsa.2.1
  clear hsa hpa hna h hb
  go_enter Tryz.func26, Tryz.ntmps26
  go_wp2
  go_loopw [7] (fun i wr => ∃ k : Nat, k ≤ n ∧ i = .int .i64 k ∧ Kept [] w wr) (fun i _ => n - (intOf i).toNat)
  case atStart => exact ⟨0, Nat.zero_le _, rfl, Kept.refl _ _⟩
  case round =>
    obtain ⟨k, hk, rfl, hkr⟩ := hrel
    by_cases hlt : k < n
    · obtain ⟨x, hx⟩ : ∃ x, la[k]? = some x := ⟨_, List.getElem?_eq_getElem (by have := HNA.out; omega)⟩
      obtain ⟨b1, o1, rfl, hc1⟩ := HA.out.2.2 (by omega)
      obtain ⟨A3, n3, c3, h3, hs3, _, _⟩ := HPA.out x (List.mem_of_getElem? hx)
      have ep := sh_cells hc1 hx
      obtain ⟨⟨xm, xt, xp⟩, xv⟩ := x
      simp only at h3 hs3 ep
      subst h3
      have hn3 : n3 = xp.length := by have := hs3.1; simpa [ints] using this.symm
      have e0 : wr.cell? ⟨b1, o1 + k * 3, none⟩ = some (.string xm) := hkr.cell (ep 0 _ rfl) (by simp)
      have HEP : Hid (∀ W, Kept [] w W → W.cell? ⟨b1, o1 + k * 3 + 1, none⟩ = some (.string xt) ∧ W.cell? ⟨b1, o1 + k * 3 + 2, none⟩ = some (.slice A3 n3 c3)) := fun W hW => ⟨hW.cell (ep 1 _ rfl) (by simp), hW.cell (ep 2 _ rfl) (by simp)⟩
      have h363 := hs3.2.1
      have HX := Lib.hid hx
      have HS3 := Lib.hid hs3
      have HN3 := Lib.hid hn3
      have HKR := Lib.hid hkr
      clear hc1 ep hx hs3 hn3 hkr
      by_cases hm : xm = m
      · have hbm : (xm.toList == m.toList) = true := by rw [hm]; exact beq_self
        have HM := Lib.hid hm
        clear hm
        go_wp2
        obtain ⟨w0, hw0⟩ : ∃ w0 : World, w0 = wr := ⟨_, rfl⟩
        rw [← hw0] at HKR ⊢
        clear hw0 e0
        go_loopw [8] (fun i wr => ∃ j : Nat, j ≤ n3 ∧ i = .int .i64 j ∧ Kept [] w wr) (fun i _ => n3 - (intOf i).toNat)
        case atStart => exact ⟨0, Nat.zero_le _, rfl, HKR.out⟩
        case round =>
          obtain ⟨j, hj, rfl, hkr2⟩ := hrel
          obtain ⟨e1, e2⟩ := HEP.out wr hkr2
          have HKR2 := Lib.hid hkr2
          by_cases hlj : j < n3
          · obtain ⟨u, hu⟩ : ∃ u, xp[j]? = some u := ⟨_, List.getElem?_eq_getElem (by have := HN3.out; omega)⟩
            obtain ⟨b3, o3, rfl, hc3⟩ := HS3.out.2.2 (by omega)
            have e3 : wr.cell? ⟨b3, o3 + j, none⟩ = some (.int .i32 u) := hkr2.cell (hc3 j _ (ints_at hu)) (by simp)
            have hhas : Has P' m xt u := HH.out ⟨xm, xt, xp⟩ (List.mem_map.2 ⟨_, List.mem_of_getElem? HX.out, rfl⟩) HM.out u (List.mem_of_getElem? hu)
            have HQ : Hid (∀ W, Kept [] w W → Calls Tryz.prog 49 #[bv, .string xt, .int .i32 u] W fun e w' => e = .returned (.tuple #[.string m, .bool true]) ∧ W = w') := fun W hW => holder_any Y bv P' m xt u W (HB.out.kept0 hW) hhas
            clear hc3 hu hkr2 hhas
            go_wp2
            have q1 := fun n : KW wr => n.k.cell e1 (by simp)
            have q2 := fun n : KW wr => n.k.cell e2 (by simp)
            have q3 := fun n : KW wr => n.k.cell e3 (by simp)
            refine wp_region_quiet_k (by kernel_rfl) (by kernel_rfl) ?_
            repeat (first
              | go_big_quiet_skip
              | (go_big_quiet_want; go_big_quiet_op; first | go_big_quiet_on | go_big_quiet_call (exact Calls.quiet_k ((HQ.out _ (HKR2.out.trans0 (KW.k _))).mono fun _ _ ⟨h1, h2⟩ => ⟨h1, h2 ▸ Kept.refl _ _⟩))))
            refine wpQuiet_nil ?_
            intro wq hw'
            obtain ⟨⟨_, hkq⟩, hw''⟩ := hw'
            subst hw''
            go_wp2
            go_roundw
            case rel => exact ⟨j + 1, by omega, by go_num, HKR2.out.trans0 hkq⟩
            case measure => (simp [intOf]) <;> omega
          · go_wp2
            go_roundw
            case rel => exact ⟨k + 1, by omega, by go_num, HKR2.out⟩
            case measure => (simp [intOf]) <;> omega
      · have hbm : (xm.toList == m.toList) = false := beq_ne hm
        clear hm
        go_wp2
        go_roundw
        case rel => exact ⟨k + 1, by omega, by go_num, HKR.out⟩
        case measure => (simp [intOf]) <;> omega
    · go_wp2
      go_ret
      exact ⟨rfl, hkr⟩
end Go.Proofs.YtghgffhcdnmpnaaGreat
/-
  Each partition goes to one member, by ranges and by round robin; the order of the members does not matter. In plain Lean. Condition: a group that fits.
-/
namespace Go.Proofs.YtghgffhcdnmpnaaGreat
open Go.RowKit Go.Sort
theorem mem_gives {s : List (ByteArray × ByteArray × Int)} {m t : ByteArray} {p : Int} : p ∈ gives s m t ↔ (m, t, p) ∈ s := by
  unfold gives
  constructor
  · intro h
    obtain ⟨x, hx, rfl⟩ := List.mem_map.1 h
    obtain ⟨h1, h2⟩ := List.mem_filter.1 hx
    have h3 : x.1 = m ∧ x.2.1 = t := by simpa using h2
    obtain ⟨a, b, c⟩ := x
    obtain ⟨h4, h5⟩ := h3
    simp only at h4 h5
    subst h4 h5
    exact h1
  · intro h
    exact List.mem_map.2 ⟨_, List.mem_filter.2 ⟨h, by simp⟩, rfl⟩
theorem nodup_inj {α β : Type} {f : α → β} : ∀ {l : List α}, (l.map f).Nodup → ∀ {a b : α}, a ∈ l → b ∈ l → f a = f b → a = b
  | [], _, _, _, h, _, _ => by cases h
  | x :: l, hn, a, b, ha, hb, he => by
    rw [List.map_cons, List.nodup_cons] at hn
    rcases List.mem_cons.1 ha with h1 | h1
    · rcases List.mem_cons.1 hb with h2 | h2
      · rw [h1, h2]
      · exact absurd (List.mem_map.2 ⟨b, h2, by rw [← he, h1]⟩) hn.1
    · rcases List.mem_cons.1 hb with h2 | h2
      · exact absurd (List.mem_map.2 ⟨a, h1, by rw [he, h2]⟩) hn.1
      · exact nodup_inj hn.2 h1 h2 he
/-- Where no pair is given twice each one has one holder. -/
theorem shares_has {s : List (ByteArray × ByteArray × Int)} (hn : (s.map Prod.snd).Nodup) {x : Sh} (hx : x ∈ sharesP s) {p : Int} (hp : p ∈ x.parts) : Has (sharesP s) x.mem x.top p where
  some' := ⟨x, hx, rfl, hp⟩
  only := fun y hy ht hp2 => by
    have h1 := ((sharesP_reads s).mem x).1 hx
    have h2 := ((sharesP_reads s).mem y).1 hy
    rw [h1.1] at hp
    rw [h2.1, ht] at hp2
    have := nodup_inj hn (mem_gives.1 hp2) (mem_gives.1 hp) rfl
    exact congrArg Prod.fst this
theorem rlo_all (m n : Nat) (hn : 0 < n) : rlo m n n = m := by
  unfold rlo
  have h1 := Nat.div_add_mod m n
  have h2 := Nat.mod_lt m hn
  omega
theorem topicUp_snd (ids : List ByteArray) (t : ByteArray) (ps : List Int) : ∀ k, k ≤ ids.length → (topicUp ids t ps k).map Prod.snd = (ps.take (rlo ps.length ids.length k)).map fun p => (t, p)
  | 0, _ => by simp [topicUp, rlo]
  | k + 1, hk => by
    have ih := topicUp_snd ids t ps k (by omega)
    have h1 : ids[k]? = some ids[k] := List.getElem?_eq_getElem (by omega)
    rw [topicUp_succ h1, List.map_append, ih, List.map_map]
    have h2 : rlo ps.length ids.length (k + 1) = rhi ps.length ids.length k := by
      rw [rlo_succ]
      unfold rhi
      rw [Nat.add_assoc]
    have h3 := rlo_le ps.length ids.length k
    rw [h2]
    have h4 : ps.take (rhi ps.length ids.length k) = ps.take (rlo ps.length ids.length k) ++ rpart ps ids.length k := by
      unfold rpart
      have h5 := List.take_append_drop (rlo ps.length ids.length k) (ps.take (rhi ps.length ids.length k))
      rw [List.take_take, Nat.min_eq_left h3] at h5
      exact h5.symm
    rw [h4, List.map_append]
    rfl
theorem topicSeq_snd {ids : List ByteArray} (h : 0 < ids.length) (t : ByteArray) (ps : List Int) : (topicSeq ids t ps).map Prod.snd = ps.map fun p => (t, p) := by
  rw [← topicUp_all, topicUp_snd ids t ps _ (Nat.le_refl _), rlo_all _ _ h, List.take_length]
theorem rangeSeq_snd {l : List (ByteArray × List ByteArray)} : ∀ {tm : List (ByteArray × List Int)}, (∀ x ∈ tm, 0 < (wantIds l x.1).length) → (rangeSeq l tm).map Prod.snd = pairsOf tm
  | [], _ => rfl
  | x :: tm, h => by
    have ih := rangeSeq_snd (l := l) (tm := tm) (fun y hy => h y (.tail _ hy))
    have h1 : rangeSeq l (x :: tm) = topicSeq (srt (wantIds l x.1)) x.1 x.2 ++ rangeSeq l tm := by simp [rangeSeq]
    have h2 : pairsOf (x :: tm) = (x.2.map fun p => (x.1, p)) ++ pairsOf tm := by simp [pairsOf]
    rw [h1, h2, List.map_append, ih, topicSeq_snd (by rw [srt_len]; exact h x (.head _))]
theorem roundSeq_snd {l : List (ByteArray × List ByteArray)} : ∀ (ps : List (ByteArray × Int)) (i : Nat), ((roundSeq l ps i).map Prod.snd).Sublist ps
  | [], i => by simp [roundSeq]
  | x :: r, i => by
    unfold roundSeq
    split
    · rw [List.map_cons]
      exact (roundSeq_snd r _).cons_cons x
    · exact (roundSeq_snd r _).cons x
theorem pairs_nodup {ms : List MV} {ts : List Sh} (h : Fits ms ts) : (pairsOf (topList ts)).Nodup :=
  (pairs_sorted h).imp (fun {p q} hpq e => by subst e; rw [slt_irrefl] at hpq; cases hpq)
theorem want_ids {ms : List MV} {ts : List Sh} (h : Fits ms ts) : ∀ x ∈ topList ts, 0 < (wantIds (memList ms) x.1).length := by
  intro x hx
  obtain ⟨s, hs, rfl⟩ := List.mem_map.1 hx
  obtain ⟨m, hm, hst⟩ := h.want s hs
  have : m.id ∈ wantIds (memList ms) s.top := List.mem_map.2 ⟨(m.id, m.tops), List.mem_filter.2 ⟨List.mem_map.2 ⟨m, hm, rfl⟩, by simpa using hst⟩, rfl⟩
  exact List.length_pos_of_mem this
theorem range_nodup {ms : List MV} {ts : List Sh} (h : Fits ms ts) : ((rangeSeq (memList ms) (topList ts)).map Prod.snd).Nodup := by
  rw [rangeSeq_snd (want_ids h)]
  exact pairs_nodup h
theorem round_nodup {ms : List MV} {ts : List Sh} (h : Fits ms ts) (Lm : List (ByteArray × List ByteArray)) : ((roundSeq Lm (pairsOf (topList ts)) 0).map Prod.snd).Nodup :=
  (pairs_nodup h).sublist (roundSeq_snd _ _)
theorem Fits.perm {ms ms' : List MV} {ts : List Sh} (h : Fits ms ts) (hp : ms'.Perm ms) : Fits ms' ts where
  m1 := by rw [hp.length_eq]; exact h.m1
  m6 := by rw [hp.length_eq]; exact h.m6
  t1 := h.t1
  t6 := h.t6
  wanted := by
    unfold wantedB
    refine List.all_eq_true.2 (fun s hs => ?_)
    obtain ⟨m, hm, hst⟩ := h.want s hs
    exact List.any_eq_true.2 ⟨m, hp.mem_iff.2 hm, by simpa [wantB] using hst⟩
  tops := h.tops
  sorted := h.sorted
  mems := fun i m hm => by
    obtain ⟨j, hj⟩ := List.getElem?_of_mem (hp.mem_iff.1 (List.mem_of_getElem? hm))
    exact h.mems j m hj
  ids := fun i j a b hij ha hb he => by
    have hn : (ms'.map MV.id).Nodup := (hp.map MV.id).nodup_iff.2 h.inodup
    obtain ⟨hi, ea⟩ := List.getElem?_eq_some_iff.1 ha
    obtain ⟨hj, eb⟩ := List.getElem?_eq_some_iff.1 hb
    have := List.pairwise_iff_getElem.1 hn i j (by simpa using hi) (by simpa using hj) hij
    rw [List.getElem_map, List.getElem_map, ea, eb] at this
    exact this he
theorem rangeSeq_perm {l l' : List (ByteArray × List ByteArray)} (h : l'.Perm l) (tm : List (ByteArray × List Int)) : rangeSeq l' tm = rangeSeq l tm := by
  unfold rangeSeq
  congr 1
  funext x
  rw [srt_of_perm (wantIds_perm h x.1)]
theorem round_same2 {ms : List MV} {ts : List Sh} {F : ByteArray → ByteArray → List Int} (h : Fits ms ts) (hF : GoodRR (memList ms) (topList ts) F) : ∃ Lm : List (ByteArray × List ByteArray), Lm.Perm (memList ms) ∧ Lm.Pairwise (fun p q => slt p.1 q.1 = true) ∧ canon F (ms.map MV.id) (ts.map Sh.top) = sharesP (roundSeq Lm (pairsOf (topList ts)) 0) := by
  obtain ⟨Lm, l1, h1, h2, h3, h4, rfl⟩ := hF
  have e2 : l1 = pairsOf (topList ts) := eq_sorted keyOf h3 h4 (pairs_sorted h)
  subst e2
  have hi : (memList ms).map Prod.fst = ms.map MV.id := by simp [memList, Function.comp_def]
  have hn : (Lm.map Prod.fst).Nodup := (h1.map Prod.fst).nodup_iff.2 (by rw [hi]; exact h.inodup)
  refine ⟨Lm, h1, ?_, ?_⟩
  · rw [List.Nodup, List.pairwise_map] at hn
    refine (h2.and hn).imp ?_
    intro a b hab
    exact slt_total hab.1 (fun e => hab.2 e.symm)
  · refine Reads.unique (canon_reads h.inodup h.tnodup (fun m t hne => ⟨?_, ?_⟩)) (sharesP_reads _)
    · rw [← hi]
      exact (h1.map Prod.fst).mem_iff.1 (gives_ids _ _ hne)
    · obtain ⟨p, hp2⟩ := gives_top _ _ hne
      obtain ⟨x, hx, hx2⟩ := List.mem_flatMap.1 hp2
      obtain ⟨q, _, hq⟩ := List.mem_map.1 hx2
      have hxt : x.1 = t := congrArg Prod.fst hq
      obtain ⟨s, hs2, rfl⟩ := List.mem_map.1 hx
      exact List.mem_map.2 ⟨s, hs2, hxt⟩
theorem sorted_two {a b : List (ByteArray × List ByteArray)} (hp : a.Perm b) (ha : a.Pairwise (fun p q => slt p.1 q.1 = true)) (hb : b.Pairwise (fun p q => slt p.1 q.1 = true)) : a = b :=
  eq_sorted Prod.fst hp (ha.imp (fun {p q} h => slt_asymm h)) hb
end Go.Proofs.YtghgffhcdnmpnaaGreat
