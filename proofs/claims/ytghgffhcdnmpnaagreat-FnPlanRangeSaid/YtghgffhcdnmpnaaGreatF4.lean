/-
  RangePlan: the plan by ranges, as the reference reckons it. Conditions: at most seven members, twelve topics, a thousand partitions each.
-/
import Derived.Test.YtghgffhcdnmpnaaGreatF2b
import Derived.Test.YtghgffhcdnmpnaaGreatF3a
namespace Go.Proofs.YtghgffhcdnmpnaaGreat
open Go.RowKit Go.Sort
def rp22F (gl nl cl j z a2 bp op np cp : Nat) (id pt : ByteArray) (u : Int) (pv : Value) (ix : Nat) (v : Value) (_ : World) : Prop :=
  match ix with
  | 0 => v = pv
  | 1 => v = .slice (some ⟨gl, 0, none⟩) nl cl
  | 2 => v = .int .i64 j
  | 3 => v = .pointer (some ⟨gl, j * 8, none⟩)
  | 4 => v = .pointer (some ⟨gl, j * 8, none⟩)
  | 5 => v = .string id
  | 6 => v = .pointer (some ⟨z, 1, none⟩)
  | 7 => v = .string pt
  | 8 => v = .pointer (some ⟨z, 2, none⟩)
  | 9 => v = .slice (some ⟨bp, op, none⟩) np cp
  | 10 => v = .int .i64 a2
  | 11 => v = .pointer (some ⟨bp, op + a2, none⟩)
  | 12 => v = .int .i32 u
  | _ => True
theorem rp22F_stable {gl nl cl j z a2 bp op np cp id pt u pv} : ∀ ix v w w', rp22F gl nl cl j z a2 bp op np cp id pt u pv ix v w → Kept [] w w' → rp22F gl nl cl j z a2 bp op np cp id pt u pv ix v w' := by
  intro ix v w w' h k
  unfold rp22F at h ⊢
  split at h <;> (first | (exact h))

def RPlanR (ms : List MV) (ts : List Sh) (w : World) (e : Ending) (w' : World) : Prop :=
  ∃ v, e = .returned v ∧ PlanS w' w.heap.size v (rangeSeq (memList ms) (topList ts)) ∧ Kept [] w w'
set_option maxRecDepth 100000 in
set_option maxHeartbeats 6400000 in
theorem rangePlan_spec (X Y : Nat → Prop) (mv tv : Value) (ms : List MV) (ts : List Sh) (w : World) (hm : MemsAt w X mv ms) (ht : ShsAt w Y tv ts) (h7 : ms.length ≤ 7) (h12 : ts.length ≤ 12) (hfew : ∀ s ∈ ts, s.parts.length ≤ 1000) :
    Calls Tryz.prog 24 #[mv, tv] w (RPlanR ms ts w) := by
  obtain ⟨A, n, cm, rfl, _, _, _⟩ := hm.1
  obtain ⟨l, rfl, ⟨At, nt, ct, rfl, hts, _, _⟩, htp⟩ := ht
  obtain rfl : nt = l.length := by have := hts.1; rw [flat_len shCells 3 (fun _ => rfl)] at this; omega
  have HM := Lib.hid hm
  have HTS := Lib.hid hts
  have HTP := Lib.hid htp
  have HFEW := Lib.hid hfew
  have h64 := hts.2.1
  rw [List.length_map] at h12
  obtain ⟨B, hB⟩ : ∃ B, w.heap.size = B := ⟨_, rfl⟩
  have HBB := Lib.hid hB
  have HH7 : Hid (ms.length ≤ 7) := h7
  clear hm hts htp hfew hB h7
  go_enter Tryz.func24, Tryz.ntmps24
  go_wp2
  go_loopw [5, 6] (fun pv i wr => ∃ k : Nat, k ≤ l.length ∧ i = .int .i64 k ∧ PlanS wr B pv (rangeSeq (memList ms) (topList ((l.take k).map Prod.fst))) ∧ Kept [] w wr) (fun _ i _ => l.length - (intOf i).toNat)
  case atStart => exact ⟨0, Nat.zero_le _, rfl, ⟨[], own_new w 53 3 0 #[] B (by rw [HBB.out]; exact Nat.le_refl _) (by omega) rfl rfl, by simp, rfl⟩, (Kept.refl _ _).alloc _⟩
  case round =>
    obtain ⟨k, hk, rfl, hplan, hkr⟩ := hrel
    have HPLAN := Lib.hid hplan
    have HKR := Lib.hid hkr
    clear hplan hkr
    by_cases hlt : k < l.length
    · obtain ⟨b0, o0, rfl, hcc⟩ := HTS.out.2.2 (by omega)
      obtain ⟨p, hp⟩ : ∃ p, l[k]? = some p := ⟨_, List.getElem?_eq_getElem hlt⟩
      obtain ⟨⟨pm, pt, ps⟩, pv⟩ := p
      have HP := Lib.hid hp
      obtain ⟨Ap, np, cp, hpe, hps, _, _⟩ := HTP.out _ (List.mem_of_getElem? hp)
      simp only at hpe hps
      subst hpe
      obtain rfl : np = ps.length := by have := hps.1; simpa [ints] using this.symm
      have hp1000 : ps.length ≤ 1000 := HFEW.out ⟨pm, pt, ps⟩ (List.mem_map.2 ⟨_, List.mem_of_getElem? hp, rfl⟩)
      have HPS := Lib.hid hps
      have HCP : Hid (∀ i v, [Value.string pm, .string pt, .slice Ap ps.length cp][i]? = some v → wr.cell? ⟨b0, o0 + k * 3 + i, none⟩ = some v) := fun i v hv => HKR.out.cell (sh_cells hcc hp i v hv) (by simp)
      clear hcc hp hps
      have HO : Hid (∀ W, Kept [] w W → Calls Tryz.prog 47 #[.slice A n cm] W (OrdR ms W)) := fun W hW => ordered_any X _ ms W (HM.out.kept0 hW) (by have := HH7.out; omega)
      obtain ⟨w0, hw0⟩ : ∃ w0, w0 = wr := ⟨_, rfl⟩
      rw [← hw0] at HPLAN HKR HCP ⊢
      clear hw0
      obtain ⟨z, hz⟩ : ∃ z, w0.heap.size = z := ⟨_, rfl⟩
      have HZ := Lib.hid hz
      clear hz
      go_wp2_with (first | (refine wl_load_struct rfl 53 _ rfl Tryz.underlying53 rfl rfl b0 (o0 + k * 3) rfl _ rfl HCP.out ?_) | ((with_reducible refine (HO.out _ ((HKR.out.alloc _).alloc _)).mono ?_); rintro e w1 ⟨v1, os, rfl, hown, hperm, hsort, hk1⟩; obtain ⟨A9, c9, rfl⟩ := own_form hown; have HOWN := Lib.hid hown; have HPERM := Lib.hid hperm; have HSORT := Lib.hid hsort; have HK1 := Lib.hid hk1; clear hown hperm hsort hk1))
      rw [HZ.out]
      obtain ⟨m, hm⟩ : ∃ m, os.length = m := ⟨_, rfl⟩
      rw [hm] at HOWN ⊢
      have hm7 : m ≤ 7 := by rw [← hm, HPERM.out.length_eq]; exact HH7.out
      have HMM := Lib.hid hm
      clear hm
      have HKA : Hid (Kept [] (w0.alloc (Obj.cells #[Value.string pm, Value.string pt, Value.slice Ap ps.length cp] 53)) w1) := ((Kept.refl _ _).alloc _).trans0 HK1.out
      have HWZ : Hid (((w0.alloc (Obj.cells #[Value.string pm, Value.string pt, Value.slice Ap ps.length cp] 53)).alloc (Obj.cells #[] 46)).heap.size = z + 2) := by have := HZ.out; simp; omega
      rw [HWZ.out] at HOWN
      have HL0 : Hid (w1.ownsRow (z + 1) 46 8 (.slice (some ⟨z + 1, 0, none⟩) 0 0) 0 []) := own_kept0 (own_new _ 46 8 0 #[] (z + 1) (by have := HZ.out; simp; omega) (by omega) rfl (by have := HZ.out; simp; omega)) HK1.out
      have HKW1 : Hid (Kept [] w w1) := (HKR.out.alloc _).trans0 HKA.out
      have HPL1 : Hid (PlanS w1 B u5 (rangeSeq (memList ms) (topList ((l.take k).map Prod.fst)))) := HPLAN.out.kept0 (((Kept.refl _ _).alloc _).trans0 HKA.out)
      have HCZ : Hid (∀ i v, #[Value.string pm, .string pt, .slice Ap ps.length cp][i]? = some v → w1.cell? ⟨z, i, none⟩ = some v) := fun i v hv => HKA.out.cell (by rw [← HZ.out, cell_alloc_new]; exact hv) (by simp)
      have HUZ : Hid (∀ g, u5.ownBlock = some g → g ≠ z) := fun g hg e => by have := (HPLAN.out.lt g hg).2; have := HZ.out; omega
      have hc1 : w1.cell? ⟨z, 1, none⟩ = some (.string pt) := HCZ.out 1 _ rfl
      have HWS : Hid (∀ (q : MV), q ∈ os → ∃ A2 c2 A3 c3 A4 c4, q.tv = .slice A2 q.tops.length c2 ∧ q.dv = .slice A3 q.dn c3 ∧ q.ov = .slice A4 q.on c4 ∧ SlIs w 1 A2 q.tops.length (strs q.tops)) := by
        intro q hq
        obtain ⟨htv, ⟨A3, c3, hdv⟩, ⟨A4, c4, hov⟩⟩ := HM.out.2 q (HPERM.out.mem_iff.1 hq)
        obtain ⟨A2, n2, c2, htv2, ht2, _, _⟩ := htv
        obtain rfl : n2 = q.tops.length := by have := ht2.1; simpa [strs] using this.symm
        exact ⟨A2, c2, A3, c3, A4, c4, htv2, hdv, hov, ht2⟩
      go_loopw [8, 10] (fun lv q wr => ∃ j : Nat, j ≤ m ∧ q = .int .i64 j ∧ wr.ownsRow (z + 1) 46 8 lv ((os.take j).filter (wantB pt)).length (((os.take j).filter (wantB pt)).flatMap mvCells) ∧ wr.ownsRow (z + 2) 46 8 (.slice A9 m c9) m (os.flatMap mvCells) ∧ (∀ g, lv.ownBlock = some g → (Value.slice A9 m c9).ownBlock ≠ some g) ∧ Kept [] (w0.alloc (Obj.cells #[Value.string pm, Value.string pt, Value.slice Ap ps.length cp] 53)) wr) (fun _ q _ => m - (intOf q).toNat)
      case atStart => exact ⟨0, Nat.zero_le _, rfl, HL0.out, HOWN.out, fun g hg hg2 => by have h1 := own_ge HOWN.out g hg2; have h2 : z + 1 = g := Option.some.inj hg; omega, HKA.out⟩
      case round =>
        obtain ⟨j, hj, rfl, hlv, hov, hne, hka⟩ := hrel
        have HLV := Lib.hid hlv
        have HOV := Lib.hid hov
        have HNE := Lib.hid hne
        have HKA2 := Lib.hid hka
        clear hlv hov hne hka
        by_cases hlj : j < m
        · obtain ⟨q, hq⟩ : ∃ q, os[j]? = some q := ⟨_, List.getElem?_eq_getElem (by have := HMM.out; omega)⟩
          obtain ⟨g9, rfl⟩ := own_row HOV.out (by omega)
          obtain ⟨A2, c2, A3, c3, A4, c4, htv2, hdv, hov, ht2⟩ := HWS.out q (List.mem_of_getElem? hq)
          have HCQ0 : Hid (∀ i v, (mvCells q)[i]? = some v → wr.cell? ⟨g9, j * 8 + i, none⟩ = some v) := own_cells8 HOV.out hq
          have HQ := Lib.hid hq
          obtain ⟨id, ver, tops, ttv, dv, ov, dn, on, gen, rack, hr⟩ := q
          simp only at htv2 hdv hov ht2
          subst htv2 hdv hov
          have HCQ : Hid (∀ i v, [Value.string id, .int .i16 ver, .slice A2 tops.length c2, .slice A3 dn c3, .slice A4 on c4, .int .i32 gen, .string rack, .bool hr][i]? = some v → wr.cell? ⟨g9, j * 8 + i, none⟩ = some v) := HCQ0.out
          have hld := fun n : KW wr => run_load_struct (P := Tryz.prog) (w := n.w) Tryz.underlying46 rfl rfl g9 (j * 8) _ rfl (fun i v hv => n.k.cell (HCQ.out i v hv) (by simp))
          have HTW := Lib.hid (fun W (hW : Kept [] wr W) => wants_any id rack pt ver gen A2 c2 tops (.slice A3 dn c3) (.slice A4 on c4) hr W (ht2.kept0 (((HKR.out.alloc _).trans0 HKA2.out).trans0 hW)))
          have htop1 : wr.cell? ⟨z, 1, none⟩ = some (.string pt) := HKA2.out.cell (by rw [← HZ.out, cell_alloc_new]; rfl) (by simp)
          clear hq ht2 HCQ0
          go_wp2
          have hq1 := fun n : KW wr => n.k.cell htop1 (by simp)
          refine wp_region_quiet_k (by kernel_rfl) (by kernel_rfl) ?_
          repeat (first
            | go_big_quiet_skip
            | (go_big_quiet_want; go_big_quiet_op; first | go_big_quiet_on | go_big_quiet_call (exact Calls.quiet_k (HTW.out _ (KW.k _))))
            | (go_big_quiet_want
               refine quiet_load_struct _ _ rfl _ rfl ?_ ?_ ?_
               rotate_left
               · (intro _ hw'
                  obtain ⟨nk, hw''⟩ := hw'
                  subst hw''
                  exact hld nk)
               (simp only [Act.put, List.setIfInBounds_toArray, List.set_cons_succ, List.set_cons_zero])
               go_big_quiet_on))
          refine wpQuiet_nil ?_
          intro wq hw'
          obtain ⟨⟨_, hkq⟩, hw''⟩ := hw'
          subst hw''
          have HFT := filter_take (wantB pt) HQ.out
          by_cases hw : pt ∈ tops
          · have hwd : decide (pt ∈ tops) = true := by simpa using hw
            rw [show wantB pt ⟨id, ver, tops, .slice A2 tops.length c2, .slice A3 dn c3, .slice A4 on c4, dn, on, gen, rack, hr⟩ = true from hwd] at HFT
            have HFT2 := Lib.hid HFT
            have HCQ3 : Hid (∀ i v, [Value.string id, .int .i16 ver, .slice A2 tops.length c2, .slice A3 dn c3, .slice A4 on c4, .int .i32 gen, .string rack, .bool hr][i]? = some v → wq.cell? ⟨g9, j * 8 + i, none⟩ = some v) := fun i v hv => hkq.cell (HCQ.out i v hv) (by simp)
            have HLV2 := Lib.hid (own_kept0 HLV.out hkq)
            have HKQ := Lib.hid hkq
            clear hwd HFT hkq hq1 hld
            obtain ⟨nf, hnf⟩ : ∃ nf, ((os.take j).filter (wantB pt)).length = nf := ⟨_, rfl⟩
            have hnf7 : nf ≤ 7 := by rw [← hnf]; refine Nat.le_trans (List.length_filter_le _ _) ?_; rw [List.length_take]; omega
            rw [hnf] at HLV2
            have HNF := Lib.hid hnf
            clear hnf
            obtain ⟨Al, cl, rfl⟩ := own_form HLV2.out
            go_wp2_with (first | (refine wl_load_struct rfl 46 _ rfl Tryz.underlying46 rfl rfl g9 (j * 8) rfl _ rfl HCQ3.out ?_) | (at_builtin; refine wl_append rfl _ _ 29 rfl (z + 1) 46 Tryz.underlying29 info46 rfl (by decide) _ nf _ rfl (own_kept0 HLV2.out ((Kept.refl _ _).alloc _)) _ 1 1 _ rfl (own_slis (own_new wq 46 8 1 #[Value.string id, .int .i16 ver, .slice A2 tops.length c2, .slice A3 dn c3, .slice A4 on c4, .int .i32 gen, .string rack, .bool hr] 0 (Nat.zero_le _) (by omega) rfl rfl)) (by simp [Value.oneCell']) (by omega) (by omega) (by have h1 := HKQ.out.size; have h2 := HKA2.out.size; have h3 := HZ.out; simp at h2 ⊢; omega) ?_; intro v7 w7 hown hk7 hat; obtain ⟨A7, c7, rfl⟩ := own_form hown; have HO7 := Lib.hid hown; have HK7 : Hid (Kept (Value.slice Al nf cl).ownBlock.toList (wq.alloc (.cells #[Value.string id, .int .i16 ver, .slice A2 tops.length c2, .slice A3 dn c3, .slice A4 on c4, .int .i32 gen, .string rack, .bool hr] 46)) w7) := hk7; have HAT : Hid ((Value.slice A7 (nf + 1) c7).ownBlock = (Value.slice Al nf cl).ownBlock ∨ (Value.slice A7 (nf + 1) c7).ownBlock = some (wq.alloc (.cells #[Value.string id, .int .i16 ver, .slice A2 tops.length c2, .slice A3 dn c3, .slice A4 on c4, .int .i32 gen, .string rack, .bool hr] 46)).heap.size) := hat; clear hown hk7 hat))
            refine ⟨⟨j + 1, by omega, by go_num, ?_, ?_, ?_, ?_⟩, by simp [intOf]; omega⟩
            · rw [HFT2.out, if_pos rfl, List.length_append, HNF.out, List.flatMap_append]
              have h := HO7.out
              simpa [mvCells] using h
            · refine HK7.out.own (own_kept0 HOV.out (HKQ.out.alloc _)) (fun b hb hm => HNE.out b (Option.mem_toList.1 hm) hb)
            · intro g hg hg2
              rcases HAT.out with h | h
              · exact HNE.out g (h ▸ hg) hg2
              · rw [h] at hg
                have h1 := own_lt HOV.out g hg2
                have h2 := HKQ.out.size
                have h3 := Option.some.inj hg
                simp at h3
                omega
            · refine ((HKA2.out.trans0 HKQ.out).alloc _).trans HK7.out (fun x hx => .inr ?_)
              have h1 := own_ge HLV2.out x (Option.mem_toList.1 hx)
              have h2 := HZ.out
              simp
              omega
          · have hwd : decide (pt ∈ tops) = false := by simpa using hw
            go_wp2
            go_roundw
            case rel =>
              rw [show wantB pt ⟨id, ver, tops, .slice A2 tops.length c2, .slice A3 dn c3, .slice A4 on c4, dn, on, gen, rack, hr⟩ = false from hwd] at HFT
              refine ⟨j + 1, by omega, by go_num, ?_, own_kept0 HOV.out hkq, HNE.out, HKA2.out.trans0 hkq⟩
              rw [HFT]
              simpa using own_kept0 HLV.out hkq
            case measure => (simp [intOf]) <;> omega
        · obtain rfl : j = m := by omega
          rw [List.take_of_length_le (by have := HMM.out; omega)] at HLV
          obtain ⟨fs, hfs⟩ : ∃ fs, os.filter (wantB pt) = fs := ⟨_, rfl⟩
          rw [hfs] at HLV
          obtain ⟨nl, hnl⟩ : ∃ nl, fs.length = nl := ⟨_, rfl⟩
          have hnl7 : nl ≤ 7 := by rw [← hnl, ← hfs]; refine Nat.le_trans (List.length_filter_le _ _) ?_; have := HMM.out; omega
          rw [hnl] at HLV
          have hids := ord_ids HPERM.out HSORT.out pt
          rw [hfs] at hids
          have HIDS := Lib.hid hids
          have HNL := Lib.hid hnl
          have hil : (srt (wantIds (memList ms) pt)).length = nl := by rw [← hids, List.length_map, hnl]
          have HIL := Lib.hid hil
          obtain ⟨Al, cl, rfl⟩ := own_form HLV.out
          have HPL2 : Hid (PlanS wr B u5 (rangeSeq (memList ms) (topList ((l.take k).map Prod.fst)))) := HPLAN.out.kept0 (((Kept.refl _ _).alloc _).trans0 HKA2.out)
          have HKW2 : Hid (Kept [] w wr) := (HKR.out.alloc _).trans0 HKA2.out
          have HCZ2 : Hid (∀ i v, #[Value.string pm, .string pt, .slice Ap ps.length cp][i]? = some v → wr.cell? ⟨z, i, none⟩ = some v) := fun i v hv => HKA2.out.cell (by rw [← HZ.out, cell_alloc_new]; exact hv) (by simp)
          have HSL0 : Hid ((rangeSeq (memList ms) (topList ((l.take k).map Prod.fst))).length ≤ 84000) := by
            have h1 := rangeSeq_len (memList ms) (by simpa [memList] using HH7.out) (topList ((l.take k).map Prod.fst)) (fun x hx => by
              obtain ⟨s, hs, rfl⟩ := List.mem_map.1 hx
              obtain ⟨p, hp, rfl⟩ := List.mem_map.1 hs
              exact HFEW.out _ (List.mem_map.2 ⟨p, List.mem_of_mem_take hp, rfl⟩))
            have h2 : (topList ((l.take k).map Prod.fst)).length ≤ 12 := by
              simp only [topList, List.length_map, List.length_take]
              omega
            have h3 : (rangeSeq (memList ms) (topList ((l.take k).map Prod.fst))).length ≤ 84000 := by omega
            exact h3
          obtain ⟨S0, hS0⟩ : ∃ s, rangeSeq (memList ms) (topList ((l.take k).map Prod.fst)) = s := ⟨_, rfl⟩
          rw [hS0] at HPL2 HSL0
          have HS0 := Lib.hid hS0
          obtain ⟨ids, hidd⟩ : ∃ s, srt (wantIds (memList ms) pt) = s := ⟨_, rfl⟩
          rw [hidd] at HIDS HIL
          have HIDD := Lib.hid hidd
          clear hfs hnl hids hil hS0 hidd hc1
          go_wp2
          go_loopw [5, 11, 12] (fun pv at' q w2 => ∃ j a : Nat, j ≤ nl ∧ q = .int .i64 j ∧ a = rlo ps.length nl j ∧ at' = .int .i64 a ∧ PlanS w2 B pv (S0 ++ topicUp ids pt ps j) ∧ (∀ g, pv.ownBlock = some g → g ≠ z) ∧ w2.ownsRow (z + 1) 46 8 (.slice Al nl cl) nl (fs.flatMap mvCells) ∧ w2.cell? ⟨z, 1, none⟩ = some (.string pt) ∧ w2.cell? ⟨z, 2, none⟩ = some (.slice Ap ps.length cp) ∧ Kept [] w w2) (fun _ _ q _ => nl - (intOf q).toNat)
          case atStart => exact ⟨0, 0, Nat.zero_le _, rfl, by simp [rlo], rfl, by simpa [topicUp] using HPL2.out, HUZ.out, HLV.out, HCZ2.out 1 _ rfl, HCZ2.out 2 _ rfl, HKW2.out⟩
          case round =>
            obtain ⟨j, a, hj, rfl, ha, rfl, hpl, huz, hlv, hc1, hc2, hkw⟩ := hrel
            have HA := Lib.hid ha
            have HPL := Lib.hid hpl
            have HUZ2 := Lib.hid huz
            have HLV2 := Lib.hid hlv
            have HC1 := Lib.hid hc1
            have HC2 := Lib.hid hc2
            have HKW := Lib.hid hkw
            clear ha hpl huz hlv hkw hc1
            by_cases hlj : j < nl
            · obtain ⟨y, hy⟩ : ∃ y, fs[j]? = some y := ⟨_, List.getElem?_eq_getElem (by have := HNL.out; omega)⟩
              obtain ⟨gl, rfl⟩ := own_row HLV2.out (by omega)
              have HY := Lib.hid hy
              clear hy
              obtain ⟨q, hq⟩ : ∃ q, ps.length / nl = q := ⟨_, rfl⟩
              obtain ⟨r, hr⟩ : ∃ r, ps.length % nl = r := ⟨_, rfl⟩
              obtain ⟨np, hnp⟩ : ∃ np, ps.length = np := ⟨_, rfl⟩
              have hrl : r < nl := by rw [← hr]; exact Nat.mod_lt _ (by omega)
              have hqn : q ≤ np := by rw [← hq, ← hnp]; exact Nat.div_le_self _ _
              rw [hnp] at hq hr hp1000 HP HPS HCP HCZ2 HC2 hc2 HA
              have hquo : Int.tdiv (np : Int) (nl : Int) = (q : Int) := by rw [← hq]; rfl
              have hrem : Int.tmod (np : Int) (nl : Int) = (r : Int) := by rw [← hr]; rfl
              have hn0 : ¬ ((nl : Int) = 0) := by omega
              have HNP := Lib.hid hnp
              have HQ2 := Lib.hid hq
              have HR2 := Lib.hid hr
              clear hnp hq hr
              obtain ⟨RP, hRP⟩ : ∃ s, rpart ps nl j = s := ⟨_, rfl⟩
              have hcl : RP.length = q + (if j < r then 1 else 0) := by rw [← hRP, rpart_size ps nl j hlj, HNP.out, HQ2.out, HR2.out]
              obtain ⟨id, hid⟩ : ∃ s, y.id = s := ⟨_, rfl⟩
              have hidj : ids[j]? = some id := by rw [← HIDS.out, List.getElem?_map, HY.out, ← hid]; rfl
              have HRP := Lib.hid hRP
              have HIDJ := Lib.hid hidj
              have HID := Lib.hid hid
              have hcr : RP.length ≤ 1000 := by
                have h1 := rpart_len ps nl j
                rw [HRP.out, HNP.out] at h1
                omega
              have HSJ : Hid ((S0 ++ topicUp ids pt ps j).length ≤ 92000) := by
                have h1 := topicUp_len ids pt ps j
                have h2 := HSL0.out
                have h3 : j * ps.length ≤ 7 * 1000 := Nat.mul_le_mul (by omega) (by rw [HNP.out]; exact hp1000)
                have h4 : (S0 ++ topicUp ids pt ps j).length ≤ 92000 := by rw [List.length_append]; omega
                exact h4
              obtain ⟨S1, hS1⟩ : ∃ s, S0 ++ topicUp ids pt ps j = s := ⟨_, rfl⟩
              rw [hS1] at HPL HSJ
              have HS1 := Lib.hid hS1
              obtain ⟨cnt, hcn⟩ : ∃ s, RP.length = s := ⟨_, rfl⟩
              have HCN := Lib.hid hcn
              rw [hcn] at hcl hcr
              have haN : a ≤ np := by have h1 := rhi_le ps.length nl j hlj; have h2 := rlo_le ps.length nl j; have h3 := HA.out; rw [HNP.out] at h1 h2; omega
              have HCL := Lib.hid hcl
              clear hRP hidj hid hS1 hcn hcl
              by_cases hjr : j < r
              case' pos => have HD : Hid (cnt = q + 1) := by have h := HCL.out; rw [if_pos hjr] at h; exact h
              case' neg => have HD : Hid (cnt = q) := by have h := HCL.out; rw [if_neg hjr] at h; exact h
              all_goals
                go_wp2
                clear hquo hrem hn0 hjr hc2
                obtain ⟨w3, hw3⟩ : ∃ w3 : World, w3 = wr := ⟨_, rfl⟩
                rw [← hw3] at HPL HLV2 HC1 HC2 HKW ⊢
                clear hw3
                go_loopw [5, 11, 13] (fun pv at' nv w2 => ∃ c d a2 : Nat, c + d = cnt ∧ nv = .int .i64 d ∧ a2 = a + c ∧ at' = .int .i64 a2 ∧ PlanS w2 B pv (S1 ++ (RP.take c).map fun p => (id, pt, p)) ∧ (∀ g, pv.ownBlock = some g → g ≠ z) ∧ w2.ownsRow (z + 1) 46 8 (.slice (some ⟨gl, 0, none⟩) nl cl) nl (fs.flatMap mvCells) ∧ w2.cell? ⟨z, 1, none⟩ = some (.string pt) ∧ w2.cell? ⟨z, 2, none⟩ = some (.slice Ap np cp) ∧ Kept [] w w2) (fun _ _ nv _ => (intOf nv).toNat)
                case atStart => exact ⟨0, cnt, a, by omega, by first | (rw [HD.out]; done) | (rw [HD.out]; rfl) | (rw [HD.out]; go_num), rfl, rfl, by simpa using HPL.out, HUZ2.out, HLV2.out, HC1.out, HC2.out, HKW.out⟩
                case round =>
                  obtain ⟨c, d, a2, hcd, rfl, ha2, rfl, hpl, huz, hlv, hc1, hc2, hkw⟩ := hrel
                  have HA2 := Lib.hid ha2
                  have HPL3 := Lib.hid hpl
                  have HUZ3 := Lib.hid huz
                  have HLV3 := Lib.hid hlv
                  have HC13 := Lib.hid hc1
                  have HC23 := Lib.hid hc2
                  have HKW3 := Lib.hid hkw
                  clear ha2 hpl huz hlv hkw hc1 hc2
                  by_cases hd0 : 0 < d
                  · have hrhi : a + cnt = rhi np nl j ∧ rhi np nl j ≤ np := by
                      have h1 := rhi_le np nl j hlj
                      have h2 := HA.out
                      have h3 := HCL.out
                      refine ⟨?_, h1⟩
                      rw [h2, h3]
                      unfold rhi
                      rw [HQ2.out, HR2.out, Nat.add_assoc]
                    obtain ⟨u, hu⟩ : ∃ u, ps[a2]? = some u := ⟨_, List.getElem?_eq_getElem (by have := HA2.out; have := HNP.out; omega)⟩
                    obtain ⟨bp, op, rfl, hcc⟩ := HPS.out.2.2 (by omega)
                    have HCU : Hid (wr.cell? ⟨bp, op + a2, none⟩ = some (.int .i32 u)) := HKW3.out.cell (hcc a2 _ (ints_at hu)) (by simp)
                    have HCY : Hid (wr.cell? ⟨gl, j * 8, none⟩ = some (.string id)) := by rw [← HID.out]; exact own_cells8 HLV3.out HY.out 0 _ rfl
                    have hget : RP[c]? = some u := by
                      rw [← HRP.out]
                      have h1 := HA2.out
                      have h2 := HA.out
                      refine rpart_get ?_ ?_
                      · rw [HNP.out, ← h2, ← h1]; exact hu
                      · rw [HNP.out, ← h2, ← hrhi.1]; omega
                    have HTK : Hid (RP.take (c + 1) = RP.take c ++ [u]) := take_one hget
                    have ha2n : a2 < np := by have := HA2.out; omega
                    clear hu hcc hget hrhi
                    go_wp2
                    refine wp_region_facts' 13 (Kept []) (rp22F gl nl cl j z a2 bp op np cp id pt u u5) mixed (by kernel_rfl) ((Kept.refl _ _).drew) (fun _ _ _ h k => h.trans0 k) rp22F_stable ?_ ?_
                    · refine ⟨?_, ?_, ?_, ?_, ?_, ?_, ?_, ?_, ?_, ?_, ?_, ?_, ?_, trivial⟩
                      all_goals go_light
                      all_goals intro a W hR hs hd
                      all_goals have p5 : a.tmps[5]? = some (u5) := hs.2.2 5 (by decide)
                      all_goals have p8 : a.tmps[8]? = some (.slice (some ⟨gl, 0, none⟩) nl cl) := hs.2.2 8 (by decide)
                      all_goals have p12 : a.tmps[12]? = some (.int .i64 j) := hs.2.2 12 (by decide)
                      all_goals have p7 : a.tmps[7]? = some (.pointer (some ⟨z, 0, none⟩)) := hs.2.2 7 (by decide)
                      all_goals have p11 : a.tmps[11]? = some (.int .i64 a2) := hs.2.2 11 (by decide)
                      all_goals have hRr : Kept [] W W := Kept.refl [] W
                      all_goals have hcy : W.cell? ⟨gl, j * 8, none⟩ = some (.string id) := hR.cell HCY.out (by simp)
                      all_goals have hcz1 : W.cell? ⟨z, 1, none⟩ = some (.string pt) := hR.cell HC13.out (by simp)
                      all_goals have hcz2 : W.cell? ⟨z, 2, none⟩ = some (.slice (some ⟨bp, op, none⟩) np cp) := hR.cell HC23.out (by simp)
                      all_goals have hcu : W.cell? ⟨bp, op + a2, none⟩ = some (.int .i32 u) := hR.cell HCU.out (by simp)
                      · refine ow_value (w' := W) (v := u5) ?_ (.mk hRr rfl rfl)
                        simp [go_sem, p5]
                      · refine ow_value (w' := W) (v := .slice (some ⟨gl, 0, none⟩) nl cl) ?_ (.mk hRr rfl rfl)
                        simp [go_sem, p8]
                      · refine ow_value (w' := W) (v := .int .i64 j) ?_ (.mk hRr rfl rfl)
                        simp [go_sem, p12]
                      · have q1 : _ = _ := hd.1 rfl
                        have q2 : _ = _ := hd.2.1 rfl
                        refine ow_value (w' := W) (v := .pointer (some ⟨gl, j * 8, none⟩)) ?_ (.mk hRr rfl rfl)
                        simp [go_sem, q1, q2, show ¬ nl ≤ j by omega]
                      · have q3 : _ = _ := hd.1 rfl
                        refine ow_value (w' := W) (v := .pointer (some ⟨gl, j * 8, none⟩)) ?_ (.mk hRr rfl rfl)
                        simp [go_sem, q3]
                      · have q4 : _ = _ := hd.1 rfl
                        refine ow_value (w' := W) (v := .string id) ?_ (.mk hRr rfl rfl)
                        simp [go_sem, q4, hcy]
                      · refine ow_value (w' := W) (v := .pointer (some ⟨z, 1, none⟩)) ?_ (.mk hRr rfl rfl)
                        simp [go_sem, p7]
                      · have q6 : _ = _ := hd.1 rfl
                        refine ow_value (w' := W) (v := .string pt) ?_ (.mk hRr rfl rfl)
                        simp [go_sem, q6, hcz1]
                      · refine ow_value (w' := W) (v := .pointer (some ⟨z, 2, none⟩)) ?_ (.mk hRr rfl rfl)
                        simp [go_sem, p7]
                      · have q8 : _ = _ := hd.1 rfl
                        refine ow_value (w' := W) (v := .slice (some ⟨bp, op, none⟩) np cp) ?_ (.mk hRr rfl rfl)
                        simp [go_sem, q8, hcz2]
                      · refine ow_value (w' := W) (v := .int .i64 a2) ?_ (.mk hRr rfl rfl)
                        simp [go_sem, p11]
                      · have q9 : _ = _ := hd.1 rfl
                        have q10 : _ = _ := hd.2.1 rfl
                        refine ow_value (w' := W) (v := .pointer (some ⟨bp, op + a2, none⟩)) ?_ (.mk hRr rfl rfl)
                        simp [go_sem, q9, q10, show ¬ np ≤ a2 by omega]
                      · have q11 : _ = _ := hd.1 rfl
                        refine ow_value (w' := W) (v := .int .i32 u) ?_ (.mk hRr rfl rfl)
                        simp [go_sem, q11, hcu]
                    · intro f W hR hf
                      obtain ⟨f0, f1, f2, f3, f4, f5, f6, f7, f8, f9, f10, f11, f12, -⟩ := hf
                      change f 74 = _ at f0
                      change f 75 = _ at f1
                      change f 76 = _ at f2
                      change f 77 = _ at f3
                      change f 78 = _ at f4
                      change f 79 = _ at f5
                      change f 80 = _ at f6
                      change f 81 = _ at f7
                      change f 82 = _ at f8
                      change f 83 = _ at f9
                      change f 84 = _ at f10
                      change f 85 = _ at f11
                      change f 86 = _ at f12
                      simp only [headDsts, List.take_succ_cons, List.take_zero, List.filterMap_cons, List.filterMap_nil, setAll, f0, f1, f2, f3, f4, f5, f6, f7, f8, f9, f10, f11, f12, List.setIfInBounds_toArray, List.set_cons_succ, List.set_cons_zero, List.drop_succ_cons, List.drop_zero]
                      clear f0 f1 f2 f3 f4 f5 f6 f7 f8 f9 f10 f11 f12 f
                      have HRW := Lib.hid hR
                      clear hR
                      have hsl : (S1 ++ (RP.take c).map fun p => (id, pt, p)).length ≤ 100000 := by
                        have h1 := HSJ.out
                        rw [List.length_append, List.length_map, List.length_take]
                        omega
                      have HSH : Hid (Calls Tryz.prog 48 #[u5, .string id, .string pt, .int .i32 u] W (ShareS W B u5 (S1 ++ (RP.take c).map fun p => (id, pt, p)) id pt u)) := share_s id pt u (by have h1 := HKW3.out.size; have h2 := HRW.out.size; have h3 := HBB.out; omega) (HPL3.out.kept0 HRW.out) hsl
                      clear hsl
                      have hdw : IntKind.i64.wrap ((d : Int) - 1) = ((d - 1 : Nat) : Int) := by rw [IntWalk.i64_in _ (by omega)]; omega
                      go_wp2_with ((with_reducible refine HSH.out.mono ?_); rintro e w5 ⟨v5, rfl, hpl5, hown5, hk5⟩; have HPL5 := Lib.hid hpl5; have HOWN5 := Lib.hid hown5; have HK5 := Lib.hid hk5; clear hpl5 hown5 hk5)
                      have hzW : z < W.heap.size := World.block_lt_of_cell? W ⟨z, 1, none⟩ (HRW.out.cell HC13.out (by simp))
                      have hzn : z ∉ u5.ownBlock.toList := fun hm => HUZ3.out z (Option.mem_toList.1 hm) rfl
                      have h1 := HA2.out
                      refine ⟨⟨c + 1, d - 1, a2 + 1, by omega, rfl, by omega, by go_num, ?_, ?_, ?_, ?_, ?_, ?_⟩, by simp [intOf]; omega⟩
                      · rw [HTK.out, List.map_append, ← List.append_assoc]
                        exact HPL5.out
                      · intro g hg
                        rcases HOWN5.out g hg with h | h
                        · exact HUZ3.out g h
                        · omega
                      · exact HK5.out.own (own_kept0 HLV3.out HRW.out) ((HPL3.out.kept0 HRW.out).row_ne (own_kept0 HLV3.out HRW.out) (by decide))
                      · exact HK5.out.cell (HRW.out.cell HC13.out (by simp)) hzn
                      · exact HK5.out.cell (HRW.out.cell HC23.out (by simp)) hzn
                      · refine (HKW3.out.trans0 HRW.out).trans HK5.out (fun x hx => .inr ?_)
                        rw [HBB.out]
                        exact (HPL3.out.lt x (Option.mem_toList.1 hx)).1
                  · obtain rfl : d = 0 := by omega
                    obtain rfl : c = cnt := by omega
                    go_wp2
                    go_roundw
                    case rel =>
                      have hcn := HCN.out
                      refine ⟨j + 1, a2, by omega, by go_num, ?_, rfl, ?_, HUZ3.out, HLV3.out, HC13.out, by rw [HNP.out]; exact HC23.out, HKW3.out⟩
                      · rw [rlo_succ, HNP.out, HA2.out, HA.out, HCL.out, HQ2.out, HR2.out]
                      · have h1 := HPL3.out
                        rw [List.take_of_length_le (by omega), ← HS1.out, List.append_assoc, ← HRP.out] at h1
                        rw [topicUp_succ HIDJ.out, HIL.out]
                        exact h1
                    case measure => (simp [intOf]) <;> omega
            · obtain rfl : j = nl := by omega
              go_wp2
              go_roundw
              case rel =>
                refine ⟨k + 1, by omega, by go_num, ?_, HKW.out⟩
                have h1 := HPL.out
                have h2 := HIL.out
                rw [← h2, topicUp_all, ← HIDD.out, ← HS0.out] at h1
                rw [take_one HP.out, List.map_append]
                rw [show topList (List.map Prod.fst (List.take k l) ++ List.map Prod.fst [((⟨pm, pt, ps⟩ : Sh), Value.slice Ap ps.length cp)]) = topList (List.map Prod.fst (List.take k l)) ++ [(pt, ps)] by simp [topList], rangeSeq_snoc]
                exact h1
              case measure => (simp [intOf]) <;> omega
    · go_wp2
      go_ret
      obtain rfl : k = l.length := by omega
      have h1 := HPLAN.out
      rw [List.take_length] at h1
      exact ⟨_, rfl, by rw [HBB.out]; exact h1, HKR.out⟩
end Go.Proofs.YtghgffhcdnmpnaaGreat
