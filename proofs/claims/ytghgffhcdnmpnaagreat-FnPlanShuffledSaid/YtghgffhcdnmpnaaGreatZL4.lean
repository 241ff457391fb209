/-
  Round robin as a strategy (PlanK). Conditions: those of its Plan.
-/
import Derived.Test.YtghgffhcdnmpnaaGreatZL3
import Derived.Test.YtghgffhcdnmpnaaGreatZF1
import Derived.Test.YtghgffhcdnmpnaaGreatZF3
import Derived.StillTail
namespace Go.Proofs.YtghgffhcdnmpnaaGreat
open Go.RowKit Go.Sort
theorem newRound_any (w : World) : Calls Tryz.prog 62 #[] w fun e w' => ∃ bs, e = .returned (.iface 132 (.pointer (some ⟨bs, 0, none⟩))) ∧ Kept [] w w' := by
  go_enter Tryz.func62, Tryz.ntmps62
  go_wp2
  go_ret
  exact ⟨_, rfl, (Kept.refl [] w).alloc _⟩
theorem strategy1 (w : World) : Calls Tryz.prog 42 #[.int .i64 1] w fun e w' => ∃ bs, e = .returned (.iface 132 (.pointer (some ⟨bs, 0, none⟩))) ∧ Kept [] w w' := by
  have H := Lib.hid (newRound_any w)
  go_enter Tryz.func42, Tryz.ntmps42
  go_wp2_with ((with_reducible refine H.out.mono ?_); rintro e w1 ⟨bs, rfl, hk⟩; have HK := Lib.hid hk; clear hk)
  go_ret
  exact ⟨_, rfl, HK.out⟩
theorem gives_top {l : List (ByteArray × List ByteArray)} : ∀ (ps : List (ByteArray × Int)) (i : Nat) {k t : ByteArray}, gives (roundSeq l ps i) k t ≠ [] → ∃ p, (t, p) ∈ ps
  | [], i, k, t, h => by simp [roundSeq, gives] at h
  | x :: r, i, k, t, h => by
    unfold roundSeq at h
    split at h
    · by_cases hx : x.1 = t
      · exact ⟨x.2, by rw [← hx]; exact .head _⟩
      · have h2 : gives (roundSeq l r (rnext l x.1 l.length i + 1)) k t ≠ [] := by
          intro e
          apply h
          unfold gives at e ⊢
          rw [List.filter_cons_of_neg (by simp [hx])]
          exact e
        obtain ⟨p, hp⟩ := gives_top r _ h2
        exact ⟨p, .tail _ hp⟩
    · obtain ⟨p, hp⟩ := gives_top r _ h
      exact ⟨p, .tail _ hp⟩
theorem roundSeq_len {l : List (ByteArray × List ByteArray)} : ∀ (ps : List (ByteArray × Int)) (i : Nat), (roundSeq l ps i).length ≤ ps.length
  | [], i => by simp [roundSeq]
  | x :: r, i => by
    unfold roundSeq
    split
    · have := roundSeq_len (l := l) r (rnext l x.1 l.length i + 1)
      simp only [List.length_cons]
      omega
    · have := roundSeq_len (l := l) r (rnext l x.1 l.length i)
      simp only [List.length_cons]
      omega
theorem goodRR_few {l : List (ByteArray × List ByteArray)} {tm : List (ByteArray × List Int)} {F : ByteArray → ByteArray → List Int} (h : GoodRR l tm F) (ht : Told l tm) (hp : PreRR l tm) : Few tm F := by
  obtain ⟨Lm, l1, _, _, h1, _, rfl⟩ := h
  refine ⟨fun k t hne => ?_, fun k t => ?_⟩
  · obtain ⟨p, hp⟩ := gives_top l1 0 hne
    obtain ⟨x, hx, hx2⟩ := List.mem_flatMap.1 (h1.mem_iff.1 hp)
    obtain ⟨q, _, hq⟩ := List.mem_map.1 hx2
    have : x.1 = t := congrArg Prod.fst hq
    rw [← this]
    exact List.mem_map.2 ⟨x, hx, rfl⟩
  · have h2 : (gives (roundSeq Lm l1 0) k t).length ≤ (roundSeq Lm l1 0).length := by
      unfold gives
      rw [List.length_map]
      exact List.length_filter_le _ _
    have h3 := roundSeq_len (l := Lm) l1 0
    have h4 := pairsOf_len (L := tm) (fun x hx => (hp.tops x hx).2.2.1)
    have h5 := h1.length_eq
    have h6 := ht.twelve
    omega
set_option maxRecDepth 100000 in
theorem planK1 : PlanK 1 132 169 (fun _ _ => True) GoodRR PreRR where
  made := fun W => (strategy1 W).mono fun e w' ⟨bs, h1, h2⟩ => ⟨bs, h1, trivial, h2⟩
  ok := fun _ _ _ _ _ => trivial
  find := fun _ _ => by kernel_rfl
  ahead := fun _ _ => by kernel_rfl
  enters := enters_of Tryz.func169 (by kernel_rfl) rfl
  call := fun W bs mb tb l tm _ hM hT ht hp => (planRound_any bs mb tb _ l tm W hM hT (fun _ h => h) ht hp).mono fun e w' ⟨pb, S, F, h1, h2, h3, h4, h5⟩ => ⟨pb, S, F, h1, h2, h3, h4, goodRR_few h4 ht hp, h5⟩
end Go.Proofs.YtghgffhcdnmpnaaGreat
/-
  RoundPlan: the plan by round robin, as the reference reckons it. Conditions: one to seven members, at most twelve topics, a thousand partitions each; each topic is wanted.
-/
namespace Go.Proofs.YtghgffhcdnmpnaaGreat
open Go.RowKit Go.Sort
def ro12F (g9 m c9 a r b0 o0 nt ct k bp op np cp j : Nat) (id pt : ByteArray) (u : Int) (pv : Value) (ix : Nat) (v : Value) (_ : World) : Prop :=
  match ix with
  | 0 => v = pv
  | 1 => v = .slice (some ⟨g9, 0, none⟩) m c9
  | 2 => v = .int .i64 a
  | 3 => v = .slice (some ⟨g9, 0, none⟩) m c9
  | 4 => v = .int .i64 m
  | 5 => v = .int .i64 r
  | 6 => v = .pointer (some ⟨g9, r * 8, none⟩)
  | 7 => v = .pointer (some ⟨g9, r * 8, none⟩)
  | 8 => v = .string id
  | 9 => v = .slice (some ⟨b0, o0, none⟩) nt ct
  | 10 => v = .int .i64 k
  | 11 => v = .pointer (some ⟨b0, o0 + k * 3, none⟩)
  | 12 => v = .pointer (some ⟨b0, o0 + k * 3 + 1, none⟩)
  | 13 => v = .string pt
  | 14 => v = .slice (some ⟨b0, o0, none⟩) nt ct
  | 15 => v = .int .i64 k
  | 16 => v = .pointer (some ⟨b0, o0 + k * 3, none⟩)
  | 17 => v = .pointer (some ⟨b0, o0 + k * 3 + 2, none⟩)
  | 18 => v = .slice (some ⟨bp, op, none⟩) np cp
  | 19 => v = .int .i64 j
  | 20 => v = .pointer (some ⟨bp, op + j, none⟩)
  | 21 => v = .int .i32 u
  | _ => True
theorem ro12F_stable {g9 m c9 a r b0 o0 nt ct k bp op np cp j id pt u pv} : ∀ ix v w w', ro12F g9 m c9 a r b0 o0 nt ct k bp op np cp j id pt u pv ix v w → Kept [] w w' → ro12F g9 m c9 a r b0 o0 nt ct k bp op np cp j id pt u pv ix v w' := by
  intro ix v w w' h k
  unfold ro12F at h ⊢
  split at h <;> (first | (exact h))
theorem wantsAt_mem {l : List (ByteArray × List ByteArray)} {t : ByteArray} {i : Nat} {x : ByteArray × List ByteArray} (h : l[i % l.length]? = some x) : wantsAt l t i = decide (t ∈ x.2) := by
  unfold wantsAt
  rw [h]
theorem rnext_le2 {l : List (ByteArray × List ByteArray)} {t : ByteArray} (hw : ∃ x ∈ l, t ∈ x.2) (i : Nat) : wantsAt l t (rnext l t l.length i) = true ∧ i ≤ rnext l t l.length i ∧ rnext l t l.length i ≤ i + l.length := by
  obtain ⟨x, hx, ht⟩ := hw
  exact ⟨rnext_wants l t _ i (wantsAt_some hx ht i), (rnext_le l t _ i).1, (rnext_le l t _ i).2⟩
theorem rnext_before {l : List (ByteArray × List ByteArray)} {t : ByteArray} : ∀ n i q, i ≤ q → q < rnext l t n i → wantsAt l t q = false
  | 0, i, q, h1, h2 => by simp [rnext] at h2; omega
  | n + 1, i, q, h1, h2 => by
    rw [rnext_succ] at h2
    split at h2
    · omega
    · rename_i hn
      rcases Nat.eq_or_lt_of_le h1 with rfl | h
      · simpa using hn
      · exact rnext_before n (i + 1) q h h2
/-- What RoundPlan gives. -/
def RoPlanR (ms : List MV) (ts : List Sh) (w : World) (e : Ending) (w' : World) : Prop :=
  ∃ (v : Value) (os : List MV), e = .returned v ∧ os.Perm ms ∧ os.Pairwise (fun a b => sle a.id b.id = true) ∧ PlanS w' w.heap.size v (roundSeq (memList os) (pairsOf (topList ts)) 0) ∧ Kept [] w w'
set_option maxRecDepth 100000 in
set_option maxHeartbeats 6400000 in
theorem roundPlan_spec (X Y : Nat → Prop) (mv tv : Value) (ms : List MV) (ts : List Sh) (w : World) (hm : MemsAt w X mv ms) (ht : ShsAt w Y tv ts) (h1m : 1 ≤ ms.length) (h7 : ms.length ≤ 7) (h12 : ts.length ≤ 12) (hfew : ∀ s ∈ ts, s.parts.length ≤ 1000) (hwant : ∀ s ∈ ts, ∃ m ∈ ms, s.top ∈ m.tops) :
    Calls Tryz.prog 25 #[mv, tv] w (RoPlanR ms ts w) := by
  obtain ⟨A, n, cm, rfl, _, _, _⟩ := hm.1
  obtain ⟨l, rfl, ⟨At, nt, ct, rfl, hts, _, _⟩, htp⟩ := ht
  obtain ⟨nn, hnn⟩ : ∃ nn, l.length = nn := ⟨_, rfl⟩
  obtain rfl : nt = nn := by have := hts.1; rw [flat_len shCells 3 (fun _ => rfl)] at this; omega
  have HM := Lib.hid hm
  have HTS := Lib.hid hts
  have HTP := Lib.hid htp
  have HFEW := Lib.hid hfew
  have HWANT := Lib.hid hwant
  have HNT := Lib.hid hnn
  have h64 := hts.2.1
  rw [List.length_map, hnn] at h12
  obtain ⟨B, hB⟩ : ∃ B, w.heap.size = B := ⟨_, rfl⟩
  have HBB := Lib.hid hB
  have HH7 : Hid (1 ≤ ms.length ∧ ms.length ≤ 7) := ⟨h1m, h7⟩
  have HO : Hid (∀ W, Kept [] w W → Calls Tryz.prog 47 #[.slice A n cm] W (OrdR ms W)) := fun W hW => ordered_any X _ ms W (HM.out.kept0 hW) (by have := HH7.out; omega)
  clear hm hts htp hfew hB h7 h1m hwant hnn
  go_enter Tryz.func25, Tryz.ntmps25
  go_wp2_with ((with_reducible refine (HO.out _ ((Kept.refl _ _).alloc _)).mono ?_); rintro e w1 ⟨v1, os, rfl, hown, hperm, hsort, hk1⟩; obtain ⟨A9, c9, rfl⟩ := own_form hown; have HOWN := Lib.hid hown; have HPERM := Lib.hid hperm; have HSORT := Lib.hid hsort; have HK1 := Lib.hid hk1; clear hown hperm hsort hk1)
  obtain ⟨m, hm⟩ : ∃ m, os.length = m := ⟨_, rfl⟩
  rw [hm] at HOWN ⊢
  have hm7 : m ≤ 7 ∧ 1 ≤ m := by rw [← hm, HPERM.out.length_eq]; exact ⟨HH7.out.2, HH7.out.1⟩
  have HMM := Lib.hid hm
  have hs1 : (w.alloc (Obj.cells #[] 53)).heap.size = B + 1 := by rw [← HBB.out]; simp
  rw [hs1] at HOWN
  obtain ⟨g9, rfl⟩ := own_row HOWN.out hm7.2
  have HPL0 : Hid (PlanS w1 B (.slice (some ⟨w.heap.size, 0, none⟩) 0 0) []) := ⟨[], own_kept0 (own_new w 53 3 0 #[] B (by rw [HBB.out]; exact Nat.le_refl _) (by omega) rfl rfl) HK1.out, by simp, rfl⟩
  have HKW1 : Hid (Kept [] w w1) := ((Kept.refl [] w).alloc _).trans0 HK1.out
  obtain ⟨Lm, hLm⟩ : ∃ Lm, memList os = Lm := ⟨_, rfl⟩
  have HLM := Lib.hid hLm
  have HLML : Hid (Lm.length = m) := by
    have h : Lm.length = m := by rw [← hLm, memList, List.length_map, hm]
    exact h
  obtain ⟨tl, htl⟩ : ∃ tl, topList (l.map Prod.fst) = tl := ⟨_, rfl⟩
  have HTL := Lib.hid htl
  have HWS : Hid (∀ (q : MV), q ∈ os → ∃ A2 c2 A3 c3 A4 c4, q.tv = .slice A2 q.tops.length c2 ∧ q.dv = .slice A3 q.dn c3 ∧ q.ov = .slice A4 q.on c4 ∧ SlIs w 1 A2 q.tops.length (strs q.tops)) := by
    intro q hq
    obtain ⟨htv, ⟨A3, c3, hdv⟩, ⟨A4, c4, hov⟩⟩ := HM.out.2 q (HPERM.out.mem_iff.1 hq)
    obtain ⟨A2, n2, c2, htv2, ht2, _, _⟩ := htv
    obtain rfl : n2 = q.tops.length := by have := ht2.1; simpa [strs] using this.symm
    exact ⟨A2, c2, A3, c3, A4, c4, htv2, hdv, hov, ht2⟩
  clear hm hs1 hLm htl
  go_loopw [5, 7, 8] (fun pv at' i wr => ∃ (k a : Nat) (s : List (ByteArray × ByteArray × Int)), k ≤ nt ∧ i = .int .i64 k ∧ at' = .int .i64 a ∧ a ≤ k * 8000 ∧ s.length ≤ k * 1000 ∧ PlanS wr B pv s ∧ s ++ roundSeq Lm (pairsOf (tl.drop k)) a = roundSeq Lm (pairsOf tl) 0 ∧ wr.ownsRow (B + 1) 46 8 (.slice (some ⟨g9, 0, none⟩) m c9) m (os.flatMap mvCells) ∧ Kept [] w wr) (fun _ _ i _ => nt - (intOf i).toNat)
  case atStart => exact ⟨0, 0, [], Nat.zero_le _, rfl, rfl, Nat.zero_le _, Nat.zero_le _, HPL0.out, rfl, HOWN.out, HKW1.out⟩
  case round =>
    obtain ⟨k, a, s, hk, rfl, rfl, ha8, hsl, hpl, hseq, hrow, hkr⟩ := hrel
    have HPL := Lib.hid hpl
    have HSEQ := Lib.hid hseq
    have HROW := Lib.hid hrow
    have HKR := Lib.hid hkr
    clear hpl hseq hrow hkr
    by_cases hlt : k < nt
    · obtain ⟨b0, o0, rfl, hcc⟩ := HTS.out.2.2 (by omega)
      obtain ⟨p, hp⟩ : ∃ p, l[k]? = some p := ⟨_, List.getElem?_eq_getElem (by have := HNT.out; omega)⟩
      obtain ⟨⟨pm, pt, ps⟩, pv⟩ := p
      have HP := Lib.hid hp
      obtain ⟨Ap, np, cp, hpe, hps, _, _⟩ := HTP.out _ (List.mem_of_getElem? hp)
      simp only at hpe hps
      subst hpe
      have hmemts : (⟨pm, pt, ps⟩ : Sh) ∈ l.map Prod.fst := List.mem_map.2 ⟨_, List.mem_of_getElem? hp, rfl⟩
      have hnp : np = ps.length := by have := hps.1; simpa [ints] using this.symm
      have hp1000 : np ≤ 1000 := by rw [hnp]; exact HFEW.out _ hmemts
      have HNP := Lib.hid hnp
      have HPS := Lib.hid hps
      have HWN : Hid (∃ x ∈ Lm, pt ∈ x.2) := by
        obtain ⟨m', h1, h2⟩ := HWANT.out _ hmemts
        rw [← HLM.out]
        exact ⟨(m'.id, m'.tops), List.mem_map.2 ⟨m', HPERM.out.mem_iff.2 h1, rfl⟩, h2⟩
      have HCP : Hid (∀ i v, [Value.string pm, .string pt, .slice Ap np cp][i]? = some v → w.cell? ⟨b0, o0 + k * 3 + i, none⟩ = some v) := fun i v hv => sh_cells hcc hp i v hv
      have HTK : Hid (tl.drop k = (pt, ps) :: tl.drop (k + 1)) := by
        have h1 : tl[k]? = some (pt, ps) := by rw [← HTL.out, topList, List.getElem?_map, List.getElem?_map, hp]; rfl
        obtain ⟨h2, h3⟩ := List.getElem?_eq_some_iff.1 h1
        have h4 : tl.drop k = (pt, ps) :: tl.drop (k + 1) := by rw [List.drop_eq_getElem_cons h2, h3]
        exact h4
      have HSEQ2 : Hid (s ++ roundSeq Lm (((ps.drop 0).map fun p => (pt, p)) ++ pairsOf (tl.drop (k + 1))) a = roundSeq Lm (pairsOf tl) 0) := by
        have h1 := HSEQ.out
        rw [HTK.out, show pairsOf ((pt, ps) :: tl.drop (k + 1)) = (ps.map fun p => (pt, p)) ++ pairsOf (tl.drop (k + 1)) by simp [pairsOf]] at h1
        exact h1
      clear hcc hp hps hnp hmemts
      go_wp2
      obtain ⟨w0, hw0⟩ : ∃ w0, w0 = wr := ⟨_, rfl⟩
      rw [← hw0] at HPL HKR HROW ⊢
      clear hw0
      go_loopw [5, 7, 9] (fun pv at' jv wr => ∃ (j a : Nat) (s : List (ByteArray × ByteArray × Int)), j ≤ np ∧ jv = .int .i64 j ∧ at' = .int .i64 a ∧ a ≤ k * 8000 + j * 8 ∧ s.length ≤ k * 1000 + j ∧ PlanS wr B pv s ∧ s ++ roundSeq Lm (((ps.drop j).map fun p => (pt, p)) ++ pairsOf (tl.drop (k + 1))) a = roundSeq Lm (pairsOf tl) 0 ∧ wr.ownsRow (B + 1) 46 8 (.slice (some ⟨g9, 0, none⟩) m c9) m (os.flatMap mvCells) ∧ Kept [] w wr) (fun _ _ jv _ => np - (intOf jv).toNat)
      case atStart => exact ⟨0, a, s, Nat.zero_le _, rfl, rfl, by omega, by omega, HPL.out, HSEQ2.out, HROW.out, HKR.out⟩
      case round =>
        obtain ⟨j, a, s, hj, rfl, rfl, ha8, hsl, hpl, hseq, hrow, hkr⟩ := hrel
        have HPL2 := Lib.hid hpl
        have HSEQ3 := Lib.hid hseq
        have HROW2 := Lib.hid hrow
        have HKR2 := Lib.hid hkr
        have hcpw : wr.cell? ⟨b0, o0 + k * 3 + 2, none⟩ = some (.slice Ap np cp) := hkr.cell (HCP.out 2 _ rfl) (by simp)
        have hctw : wr.cell? ⟨b0, o0 + k * 3 + 1, none⟩ = some (.string pt) := hkr.cell (HCP.out 1 _ rfl) (by simp)
        clear hpl hseq hrow hkr
        by_cases hlj : j < np
        · obtain ⟨bp, op, rfl, hccp⟩ := HPS.out.2.2 (by omega)
          obtain ⟨u, hu⟩ : ∃ u, ps[j]? = some u := ⟨_, List.getElem?_eq_getElem (by have := HNP.out; omega)⟩
          have HCUW : Hid (w.cell? ⟨bp, op + j, none⟩ = some (.int .i32 u)) := hccp j _ (ints_at hu)
          have HDJ : Hid (ps.drop j = u :: ps.drop (j + 1)) := by
            obtain ⟨h1, h2⟩ := List.getElem?_eq_some_iff.1 hu
            have h3 : ps.drop j = u :: ps.drop (j + 1) := by rw [List.drop_eq_getElem_cons h1, h2]
            exact h3
          clear hccp hu
          go_wp2
          obtain ⟨jx, hjx⟩ : ∃ jx, rnext Lm pt Lm.length a = jx := ⟨_, rfl⟩
          have hwn := rnext_le2 HWN.out a
          rw [hjx] at hwn
          have HJX := Lib.hid hjx
          have HWX : Hid (wantsAt Lm pt jx = true) := hwn.1
          have hjx1 : a ≤ jx := hwn.2.1
          have hjx2 : jx ≤ a + m := by have h1 := hwn.2.2; have h2 := HLML.out; omega
          obtain ⟨w2, hw2⟩ : ∃ w2, w2 = wr := ⟨_, rfl⟩
          rw [← hw2] at HPL2 HROW2 HKR2 hcpw hctw ⊢
          clear hw2 hwn hjx
          go_loopw [7] (fun at' wr => ∃ q : Nat, at' = .int .i64 q ∧ a ≤ q ∧ q ≤ jx ∧ Kept [] w2 wr) (fun at' _ => jx - (intOf at').toNat)
          case atStart => exact ⟨a, rfl, Nat.le_refl _, hjx1, Kept.refl _ _⟩
          case round =>
            obtain ⟨q, rfl, hq1, hq2, hkq2⟩ := hrel
            have HKQ2 := Lib.hid hkq2
            have hcpw2 : wr.cell? ⟨b0, o0 + k * 3 + 2, none⟩ = some (.slice (some ⟨bp, op, none⟩) np cp) := hkq2.cell hcpw (by simp)
            have hctw2 : wr.cell? ⟨b0, o0 + k * 3 + 1, none⟩ = some (.string pt) := hkq2.cell hctw (by simp)
            have HROW3 := Lib.hid (own_kept0 HROW2.out hkq2)
            clear hkq2
            obtain ⟨r, hr⟩ : ∃ r, q % m = r := ⟨_, rfl⟩
            have hrl : r < m := by rw [← hr]; exact Nat.mod_lt _ (by omega)
            have hrem : Int.tmod (q : Int) (m : Int) = (r : Int) := by rw [← hr]; rfl
            have hn0 : ¬ ((m : Int) = 0) := by omega
            have hm0 : ¬ m = 0 := by omega
            obtain ⟨x, hx⟩ : ∃ x, os[r]? = some x := ⟨_, List.getElem?_eq_getElem (by have := HMM.out; omega)⟩
            have HLX : Hid (Lm[q % Lm.length]? = some (x.id, x.tops)) := by
              have h1 : Lm[q % Lm.length]? = some (x.id, x.tops) := by rw [HLML.out, hr, ← HLM.out, memList, List.getElem?_map, hx]; rfl
              exact h1
            obtain ⟨A2, c2, A3, c3, A4, c4, htv2, hdv, hov, ht2⟩ := HWS.out x (List.mem_of_getElem? hx)
            have HCQ0 : Hid (∀ i v, (mvCells x)[i]? = some v → wr.cell? ⟨g9, r * 8 + i, none⟩ = some v) := own_cells8 HROW3.out hx
            have hwv : wantsAt Lm pt q = decide (pt ∈ x.tops) := wantsAt_mem HLX.out
            obtain ⟨id, ver, tops, ttv, dv, ov, dn, on, gen, rack, hrk⟩ := x
            simp only at htv2 hdv hov ht2 hwv
            subst htv2 hdv hov
            have HCQ : Hid (∀ i v, [Value.string id, .int .i16 ver, .slice A2 tops.length c2, .slice A3 dn c3, .slice A4 on c4, .int .i32 gen, .string rack, .bool hrk][i]? = some v → wr.cell? ⟨g9, r * 8 + i, none⟩ = some v) := HCQ0.out
            have hld := fun n : KW wr => run_load_struct (P := Tryz.prog) (w := n.w) Tryz.underlying46 rfl rfl g9 (r * 8) _ rfl (fun i v hv => n.k.cell (HCQ.out i v hv) (by simp))
            have HTW0 := fun W (hW : Kept [] wr W) => wants_any id rack pt ver gen A2 c2 tops (.slice A3 dn c3) (.slice A4 on c4) hrk W (ht2.kept0 ((HKR2.out.trans0 HKQ2.out).trans0 hW))
            rw [← hwv] at HTW0
            have hq1' := fun n : KW wr => n.k.cell hctw2 (by simp)
            have HXX := Lib.hid hx
            clear hx ht2 HCQ0 hr hwv
            by_cases hqx : q < jx
            · have hwf : wantsAt Lm pt q = false := rnext_before Lm.length a q hq1 (by rw [HJX.out]; exact hqx)
              rw [hwf] at HTW0
              have HTW := Lib.hid HTW0
              clear HTW0 hwf
              go_wp2
              refine wp_region_quiet_k (by kernel_rfl) (by kernel_rfl) ?_
              repeat (first
                | go_big_quiet_skip
                | (go_big_quiet_want; go_big_quiet_op; first | go_big_quiet_on | go_big_quiet_call (exact Calls.quiet_k (HTW.out _ (KW.k _))))
                | (go_big_quiet_want
                   refine quiet_load_struct _ _ rfl _ rfl ?_ ?_ ?_
                   rotate_left
                   · (intro _ hw'
                      obtain ⟨nk, hw''⟩ := hw'
                      subst hw''
                      exact hld nk)
                   (simp only [Act.put, List.setIfInBounds_toArray, List.set_cons_succ, List.set_cons_zero])
                   go_big_quiet_on))
              refine wpQuiet_nil ?_
              intro wq hw'
              obtain ⟨⟨_, hkq⟩, hw''⟩ := hw'
              subst hw''
              go_wp2
              go_roundw
              case rel => exact ⟨q + 1, by go_num, by omega, by omega, HKQ2.out.trans0 hkq⟩
              case measure => (simp [intOf]) <;> omega
            · obtain rfl : q = jx := by omega
              rw [HWX.out] at HTW0
              have HTW := Lib.hid HTW0
              clear HTW0
              go_wp2
              refine wp_region_quiet_k (by kernel_rfl) (by kernel_rfl) ?_
              repeat (first
                | go_big_quiet_skip
                | (go_big_quiet_want; go_big_quiet_op; first | go_big_quiet_on | go_big_quiet_call (exact Calls.quiet_k (HTW.out _ (KW.k _))))
                | (go_big_quiet_want
                   refine quiet_load_struct _ _ rfl _ rfl ?_ ?_ ?_
                   rotate_left
                   · (intro _ hw'
                      obtain ⟨nk, hw''⟩ := hw'
                      subst hw''
                      exact hld nk)
                   (simp only [Act.put, List.setIfInBounds_toArray, List.set_cons_succ, List.set_cons_zero])
                   go_big_quiet_on))
              refine wpQuiet_nil ?_
              intro wq hw'
              obtain ⟨⟨_, hkq⟩, hw''⟩ := hw'
              subst hw''
              go_wp2
              have HKQ := Lib.hid hkq
              have hKw : Kept [] w wq := (HKR2.out.trans0 HKQ2.out).trans0 hkq
              have HKW := Lib.hid hKw
              have HCY : Hid (wq.cell? ⟨g9, r * 8, none⟩ = some (.string id)) := hkq.cell (HCQ.out 0 _ rfl) (by simp)
              have HCT : Hid (wq.cell? ⟨b0, o0 + k * 3 + 1, none⟩ = some (.string pt)) := hkq.cell hctw2 (by simp)
              have HCP2 : Hid (wq.cell? ⟨b0, o0 + k * 3 + 2, none⟩ = some (.slice (some ⟨bp, op, none⟩) np cp)) := hkq.cell hcpw2 (by simp)
              have HCU : Hid (wq.cell? ⟨bp, op + j, none⟩ = some (.int .i32 u)) := hKw.cell HCUW.out (by simp)
              have hroq := own_kept0 HROW3.out hkq
              have HROQ := Lib.hid hroq
              have HPLQ := Lib.hid (HPL2.out.kept0 (HKQ2.out.trans0 hkq))
              clear hq1' hld hkq hKw hroq
              refine wp_region_facts' 22 (Kept []) (ro12F g9 m c9 q r b0 o0 nt ct k bp op np cp j id pt u u5) mixed (by kernel_rfl) ((Kept.refl _ _).drew) (fun _ _ _ h k => h.trans0 k) ro12F_stable ?_ ?_
              · refine ⟨?_, ?_, ?_, ?_, ?_, ?_, ?_, ?_, ?_, ?_, ?_, ?_, ?_, ?_, ?_, ?_, ?_, ?_, ?_, ?_, ?_, ?_, trivial⟩
                all_goals go_light
                all_goals intro a W hR hs hd
                all_goals have p5 : a.tmps[5]? = some (u5) := hs.2.2 5 (by decide)
                all_goals have p6 : a.tmps[6]? = some (.slice (some ⟨g9, 0, none⟩) m c9) := hs.2.2 6 (by decide)
                all_goals have p7 : a.tmps[7]? = some (.int .i64 q) := hs.2.2 7 (by decide)
                all_goals have p1 : a.tmps[1]? = some (.slice (some ⟨b0, o0, none⟩) nt ct) := hs.2.2 1 (by decide)
                all_goals have p8 : a.tmps[8]? = some (.int .i64 k) := hs.2.2 8 (by decide)
                all_goals have p9 : a.tmps[9]? = some (.int .i64 j) := hs.2.2 9 (by decide)
                all_goals have hRr : Kept [] W W := Kept.refl [] W
                all_goals have hcy : W.cell? ⟨g9, r * 8, none⟩ = some (.string id) := hR.cell HCY.out (by simp)
                all_goals have hct : W.cell? ⟨b0, o0 + k * 3 + 1, none⟩ = some (.string pt) := hR.cell HCT.out (by simp)
                all_goals have hcp : W.cell? ⟨b0, o0 + k * 3 + 2, none⟩ = some (.slice (some ⟨bp, op, none⟩) np cp) := hR.cell HCP2.out (by simp)
                all_goals have hcu : W.cell? ⟨bp, op + j, none⟩ = some (.int .i32 u) := hR.cell HCU.out (by simp)
                · refine ow_value (w' := W) (v := u5) ?_ (.mk hRr rfl rfl)
                  simp [go_sem, p5]
                · refine ow_value (w' := W) (v := .slice (some ⟨g9, 0, none⟩) m c9) ?_ (.mk hRr rfl rfl)
                  simp [go_sem, p6]
                · refine ow_value (w' := W) (v := .int .i64 q) ?_ (.mk hRr rfl rfl)
                  simp [go_sem, p7]
                · refine ow_value (w' := W) (v := .slice (some ⟨g9, 0, none⟩) m c9) ?_ (.mk hRr rfl rfl)
                  simp [go_sem, p6]
                · have q3 : _ = _ := hd.1 rfl
                  refine ow_value (w' := W) (v := .int .i64 m) ?_ (.mk hRr rfl rfl)
                  simp [go_sem, q3]
                · have q2 : _ = _ := hd.1 rfl
                  have q4 : _ = _ := hd.2.1 rfl
                  refine ow_value (w' := W) (v := .int .i64 r) ?_ (.mk hRr rfl rfl)
                  simp [go_sem, q2, q4, hrem, show ¬ m = 0 by omega]
                · have q1 : _ = _ := hd.1 rfl
                  have q5 : _ = _ := hd.2.1 rfl
                  refine ow_value (w' := W) (v := .pointer (some ⟨g9, r * 8, none⟩)) ?_ (.mk hRr rfl rfl)
                  simp [go_sem, q1, q5, show ¬ m ≤ r by omega]
                · have q6 : _ = _ := hd.1 rfl
                  refine ow_value (w' := W) (v := .pointer (some ⟨g9, r * 8, none⟩)) ?_ (.mk hRr rfl rfl)
                  simp [go_sem, q6]
                · have q7 : _ = _ := hd.1 rfl
                  refine ow_value (w' := W) (v := .string id) ?_ (.mk hRr rfl rfl)
                  simp [go_sem, q7, hcy]
                · refine ow_value (w' := W) (v := .slice (some ⟨b0, o0, none⟩) nt ct) ?_ (.mk hRr rfl rfl)
                  simp [go_sem, p1]
                · refine ow_value (w' := W) (v := .int .i64 k) ?_ (.mk hRr rfl rfl)
                  simp [go_sem, p8]
                · have q9 : _ = _ := hd.1 rfl
                  have q10 : _ = _ := hd.2.1 rfl
                  refine ow_value (w' := W) (v := .pointer (some ⟨b0, o0 + k * 3, none⟩)) ?_ (.mk hRr rfl rfl)
                  simp [go_sem, q9, q10, show ¬ nt ≤ k by omega]
                · have q11 : _ = _ := hd.1 rfl
                  refine ow_value (w' := W) (v := .pointer (some ⟨b0, o0 + k * 3 + 1, none⟩)) ?_ (.mk hRr rfl rfl)
                  simp [go_sem, q11]
                · have q12 : _ = _ := hd.1 rfl
                  refine ow_value (w' := W) (v := .string pt) ?_ (.mk hRr rfl rfl)
                  simp [go_sem, q12, hct]
                · refine ow_value (w' := W) (v := .slice (some ⟨b0, o0, none⟩) nt ct) ?_ (.mk hRr rfl rfl)
                  simp [go_sem, p1]
                · refine ow_value (w' := W) (v := .int .i64 k) ?_ (.mk hRr rfl rfl)
                  simp [go_sem, p8]
                · have q14 : _ = _ := hd.1 rfl
                  have q15 : _ = _ := hd.2.1 rfl
                  refine ow_value (w' := W) (v := .pointer (some ⟨b0, o0 + k * 3, none⟩)) ?_ (.mk hRr rfl rfl)
                  simp [go_sem, q14, q15, show ¬ nt ≤ k by omega]
                · have q16 : _ = _ := hd.1 rfl
                  refine ow_value (w' := W) (v := .pointer (some ⟨b0, o0 + k * 3 + 2, none⟩)) ?_ (.mk hRr rfl rfl)
                  simp [go_sem, q16]
                · have q17 : _ = _ := hd.1 rfl
                  refine ow_value (w' := W) (v := .slice (some ⟨bp, op, none⟩) np cp) ?_ (.mk hRr rfl rfl)
                  simp [go_sem, q17, hcp]
                · refine ow_value (w' := W) (v := .int .i64 j) ?_ (.mk hRr rfl rfl)
                  simp [go_sem, p9]
                · have q18 : _ = _ := hd.1 rfl
                  have q19 : _ = _ := hd.2.1 rfl
                  refine ow_value (w' := W) (v := .pointer (some ⟨bp, op + j, none⟩)) ?_ (.mk hRr rfl rfl)
                  simp [go_sem, q18, q19, show ¬ np ≤ j by omega]
                · have q20 : _ = _ := hd.1 rfl
                  refine ow_value (w' := W) (v := .int .i32 u) ?_ (.mk hRr rfl rfl)
                  simp [go_sem, q20, hcu]
              · intro f W hR hf
                obtain ⟨f0, f1, f2, f3, f4, f5, f6, f7, f8, f9, f10, f11, f12, f13, f14, f15, f16, f17, f18, f19, f20, f21, -⟩ := hf
                change f 45 = _ at f0
                change f 46 = _ at f1
                change f 47 = _ at f2
                change f 48 = _ at f3
                change f 49 = _ at f4
                change f 50 = _ at f5
                change f 51 = _ at f6
                change f 52 = _ at f7
                change f 53 = _ at f8
                change f 54 = _ at f9
                change f 55 = _ at f10
                change f 56 = _ at f11
                change f 57 = _ at f12
                change f 58 = _ at f13
                change f 59 = _ at f14
                change f 60 = _ at f15
                change f 61 = _ at f16
                change f 62 = _ at f17
                change f 63 = _ at f18
                change f 64 = _ at f19
                change f 65 = _ at f20
                change f 66 = _ at f21
                simp only [headDsts, List.take_succ_cons, List.take_zero, List.filterMap_cons, List.filterMap_nil, setAll, f0, f1, f2, f3, f4, f5, f6, f7, f8, f9, f10, f11, f12, f13, f14, f15, f16, f17, f18, f19, f20, f21, List.setIfInBounds_toArray, List.set_cons_succ, List.set_cons_zero, List.drop_succ_cons, List.drop_zero]
                clear f0 f1 f2 f3 f4 f5 f6 f7 f8 f9 f10 f11 f12 f13 f14 f15 f16 f17 f18 f19 f20 f21 f
                have HRW := Lib.hid hR
                clear hR
                have HSH : Hid (Calls Tryz.prog 48 #[u5, .string id, .string pt, .int .i32 u] W (ShareS W B u5 s id pt u)) := share_s id pt u (by have h1 := HKW.out.size; have h2 := HRW.out.size; have h3 := HBB.out; omega) (HPLQ.out.kept0 HRW.out) (by omega)
                go_wp2_with ((with_reducible refine HSH.out.mono ?_); rintro e w5 ⟨v5, rfl, hpl5, hown5, hk5⟩; have HPL5 := Lib.hid hpl5; have HOWN5 := Lib.hid hown5; have HK5 := Lib.hid hk5; clear hpl5 hown5 hk5)
                refine ⟨⟨j + 1, q + 1, s ++ [(id, pt, u)], by omega, by go_num, by go_num, by omega, by simp; omega, HPL5.out, ?_, ?_, ?_⟩, by simp [intOf]; omega⟩
                · rw [← HSEQ3.out, HDJ.out, List.map_cons, List.cons_append, roundSeq]
                  have hn : rnext Lm (pt, u).1 Lm.length a = q := HJX.out
                  rw [hn, if_pos HWX.out, List.getD_eq_getElem?_getD, HLX.out]
                  simp
                · exact HK5.out.own (own_kept0 HROQ.out HRW.out) ((HPLQ.out.kept0 HRW.out).row_ne (own_kept0 HROQ.out HRW.out) (by decide))
                · refine (HKW.out.trans0 HRW.out).trans HK5.out (fun x hx => .inr ?_)
                  rw [HBB.out]
                  exact (HPLQ.out.lt x (Option.mem_toList.1 hx)).1
        · go_wp2
          go_roundw
          case rel =>
            refine ⟨k + 1, a, s, by omega, by go_num, rfl, by omega, by omega, HPL2.out, ?_, HROW2.out, HKR2.out⟩
            have h1 := HSEQ3.out
            rw [List.drop_eq_nil_of_le (by have := HNP.out; omega)] at h1
            exact h1
          case measure => (simp [intOf]) <;> omega
    · go_wp2
      go_ret
      have h1 := HSEQ.out
      rw [List.drop_eq_nil_of_le (by
        have h2 : tl.length = nt := by rw [← HTL.out, topList, List.length_map, List.length_map, HNT.out]
        omega)] at h1
      simp only [pairsOf, List.flatMap_nil, roundSeq, List.append_nil] at h1
      refine ⟨_, os, rfl, HPERM.out, HSORT.out, ?_, HKR.out⟩
      rw [HBB.out, HLM.out, HTL.out, pairsOf, ← h1]
      exact HPL.out
end Go.Proofs.YtghgffhcdnmpnaaGreat
