/-
  The closure of GroupPlan, and GroupPlan, for strategies that ask something of the world (PlanT). Conditions: those of a group (Grp), and the strategy's own.
-/
import Derived.Test.YtghgffhcdnmpnaaGreatZK4
namespace Go.Proofs.YtghgffhcdnmpnaaGreat
open Go.RowKit Go.Sort Go.MapKept
/-- A strategy that writes its own block: how it is made, and what it gives. -/
structure PlanT (kind : Nat) (T : TypeId) (M : FuncId) (Init : World → Prop) (Ok : Nat → World → Prop) (Good : List (ByteArray × List ByteArray) → List (ByteArray × List Int) → (ByteArray → ByteArray → List Int) → Prop) (Pre : List (ByteArray × List ByteArray) → List (ByteArray × List Int) → Prop) : Prop where
  init : ∀ a b, Init a → Kept [] a b → Init b
  made : ∀ W, Init W → Calls Tryz.prog 42 #[.int .i64 kind] W fun e w' => ∃ bs, e = .returned (.iface T (.pointer (some ⟨bs, 0, none⟩))) ∧ Ok bs w' ∧ Kept [] W w' ∧ W.heap.size ≤ bs
  ok : ∀ bs a b, Ok bs a → Kept [] a b → Ok bs b
  okc : ∀ bs c a b, Ok bs a → KC c a b → Ok bs b
  find : ∀ (b : Nat) (w : World), (method 518 T (.pointer (some ⟨b, 0, none⟩)) "Plan").run Tryz.prog w = .ok (M, .pointer (some ⟨b, 0, none⟩)) w
  ahead : ∀ (b : Nat) (w : World), (nilAhead 518 T (.pointer (some ⟨b, 0, none⟩)) "Plan").run Tryz.prog w = .ok (some false) w
  enters : ∀ (args : Array Value) (w : World), (callFunc M args).run Tryz.prog w = .ok (.enter M args) w
  call : ∀ W bs mb tb l tm, Ok bs W → MmAt W (fun x => x < W.heap.size) mb l → TmAt W (fun x => x < W.heap.size) tb tm → Told l tm → Pre l tm →
    Calls Tryz.prog M #[.pointer (some ⟨bs, 0, none⟩), .map (some mb), .map (some tb)] W fun e w' => ∃ pb S F, e = .returned (.tuple #[.map (some pb), .nilIface]) ∧ PlanIs w' S pb F ∧ (∀ x ∈ S, W.heap.size ≤ x) ∧ Good l tm F ∧ Few tm F ∧ (KC bs W w' ∨ Kept [] W w')
set_option maxRecDepth 100000 in
set_option maxHeartbeats 3200000 in
/-- The closure of GroupPlan. -/
theorem groupClosureT {kind : Nat} {T : TypeId} {M : FuncId} {Init : World → Prop} {Ok : Nat → World → Prop} {Good : List (ByteArray × List ByteArray) → List (ByteArray × List Int) → (ByteArray → ByteArray → List Int) → Prop} {Pre : List (ByteArray × List ByteArray) → List (ByteArray × List Int) → Prop} (K : PlanT kind T M Init Ok Good Pre) (X : Nat → Prop) (mv tv : Value) (ms : List MV) (ts : List Sh) (bm bn bt bok bp : Nat) (w : World) (G : Grp w X mv tv ms ts) (hpre : Pre (memList ms) (topList ts)) (hini : Init w)
    (hm : w.cell? ⟨bm, 0, none⟩ = some mv) (hn : w.cell? ⟨bn, 0, none⟩ = some (.int .i64 kind)) (ht : w.cell? ⟨bt, 0, none⟩ = some tv) (hok : w.heap[bok]? = some (.cells #[.bool false] 4 (0, 0))) (hp : w.heap[bp]? = some (.cells #[.slice none 0 0] 30 (0, 0))) (hne : bok ≠ bp) :
    Calls Tryz.prog 40 #[.pointer (some ⟨bm, 0, none⟩), .pointer (some ⟨bn, 0, none⟩), .pointer (some ⟨bt, 0, none⟩), .pointer (some ⟨bok, 0, none⟩), .pointer (some ⟨bp, 0, none⟩)] w fun e w' =>
      e = .returned (.tuple #[]) ∧ ∃ v L F, Good (memList ms) (topList ts) F ∧ Few (topList ts) F ∧ L.map Prod.fst = canon F (ms.map MV.id) (ts.map Sh.top) ∧ w'.heap[bok]? = some (.cells #[.bool true] 4 (0, 0)) ∧ w'.heap[bp]? = some (.cells #[v] 30 (0, 0)) ∧
        w'.ownsRow w.heap.size 53 3 v L.length (shFlat L) ∧ (∀ p ∈ L, w'.ownsRow w.heap.size 21 1 p.2 p.1.parts.length (ints p.1.parts)) ∧ Kept [bok, bp] w w' := by
  obtain ⟨A, n, c, rfl, hms, hmX, hmc⟩ := G.mems.1
  obtain rfl : n = ms.length := by have := hms.1; rw [flat_len mvCells 8 (fun _ => rfl)] at this; omega
  have HPRE := Lib.hid hpre
  have HINI := Lib.hid hini
  clear hini
  have HG := Lib.hid G
  have HMS := Lib.hid hms
  have HOK := Lib.hid hok
  have HPP := Lib.hid hp
  have HN := Lib.hid hn
  have HTV := Lib.hid ht
  have hmm := @run_makeMap Tryz.prog
  have hl7 := G.six
  have hb5 : bm < w.heap.size ∧ bn < w.heap.size ∧ bt < w.heap.size ∧ bok < w.heap.size ∧ bp < w.heap.size :=
    ⟨World.block_lt_of_cell? w _ hm, World.block_lt_of_cell? w _ hn, World.block_lt_of_cell? w _ ht, (Array.getElem?_eq_some_iff.1 hok).1, (Array.getElem?_eq_some_iff.1 hp).1⟩
  clear G hpre hms hmX hmc hok hp hn ht
  go_enter Tryz.func40, Tryz.ntmps40
  go_wp2
  obtain ⟨z, hz⟩ : ∃ z, w.heap.size = z := ⟨_, rfl⟩
  rw [hz]
  go_loopg [6, 18] ms.length (fun k nv x wr => ∃ i, k = ms.length - i ∧ i ≤ ms.length ∧ x = .int .i64 i ∧ wr.ownsRow z 9 1 nv i (strs ((ms.take i).map MV.id)) ∧ MmAt wr (fun x => z ≤ x ∧ x < wr.heap.size ∧ nv.ownBlock ≠ some x) z (memList (ms.take i)) ∧ Kept [] w wr)
  case atStart =>
    refine ⟨0, rfl, Nat.zero_le _, rfl, World.ownsRow_nil _ _ _ _, ⟨⟨Nat.le_refl _, by simp [hz], by simp [Value.ownBlock]⟩, [], ?_, rfl, by simp⟩, (Kept.refl _ _).alloc _⟩
    rw [← hz]
    exact MapIs.new _ _
  case round =>
    obtain ⟨i, hk, hi, rfl, hnv, hmm1, hkr⟩ := hrel
    have HNV := Lib.hid hnv
    have HMM := Lib.hid hmm1
    have HKR := Lib.hid hkr
    clear hnv hmm1 hkr
    by_cases hlt : i < ms.length
    · have hlt' : (i : Int) < (ms.length : Int) := by omega
      obtain ⟨m, hmi⟩ : ∃ m, ms[i]? = some m := ⟨_, List.getElem?_eq_getElem hlt⟩
      have hmem : m ∈ ms := List.mem_of_getElem? hmi
      obtain ⟨b, off, rfl, hcc⟩ := HMS.out.2.2 (by omega)
      have HC : Hid (∀ j v, (mvCells m)[j]? = some v → wr.cell? ⟨b, off + i * 8 + j, none⟩ = some v) := mv_cell (fun i v hv => HKR.out.cell (hcc i v hv) (by simp)) hmi
      obtain ⟨htv, ⟨A3, c3, hdv⟩, ⟨A4, c4, hov⟩⟩ := HG.out.mems.2 m hmem
      obtain ⟨hnd, hdn, hon, htl⟩ := HG.out.once m hmem
      have hidn : m.id ∉ (ms.take i).map MV.id := keys_take MV.id HG.out.ids i m hmi
      rw [hdn] at hdv
      rw [hon] at hov
      have HMI := Lib.hid hmi
      obtain ⟨id, ver, tops, ttv, dv, ov, dn, on, gen, rack, hr⟩ := m
      simp only at hdv hov hdn hon htv hnd htl hidn
      subst hdv hov
      obtain ⟨A2, n2, c2, rfl, ht2, ht2X, _⟩ := htv
      obtain rfl : n2 = tops.length := by have := ht2.1; simpa [strs] using this.symm
      have HTA : Hid (SlAt wr X 1 (.slice A2 tops.length c2) (strs tops)) := SlAt.kept0 ⟨A2, _, c2, rfl, ht2, ht2X, by assumption⟩ HKR.out
      have HIDN := Lib.hid hidn
      have HND := Lib.hid hnd
      have hn16 : tops.length * 16 ≤ 140737488355328 := by omega
      clear ht2 hcc hmi hidn hnd hmem ht2X
      obtain ⟨_, mm, hMmm, hmml, hmmv⟩ := HMM.out
      have HMAP := Lib.hid hMmm
      have hmg : mget (mm.map fun e => (e.1, e.2.1)) id = none := by
        refine mget_none_iff.2 (fun hin => HIDN.out ?_)
        have h1 := congrArg (List.map Prod.fst) hmml
        rw [List.map_map] at hin
        rw [List.map_map] at h1
        have h2 : (ms.take i).map MV.id = mm.map (Prod.fst ∘ fun e => (e.1, e.2.2)) := by rw [h1]; simp [memList, Function.comp_def]
        rw [h2]
        exact hin
      have HMG := Lib.hid hmg
      have HMML := Lib.hid hmml
      have HMMV := Lib.hid hmmv
      clear hMmm hmml hmmv hmg
      have hone1 : ∀ u ∈ [Value.string id], u.oneCell' = true := by simp [Value.oneCell']
      have hzr : z ≤ wr.heap.size := by rw [← hz]; exact HKR.out.size
      have HNW := fun W (hk : Kept [] wr W) => own_kept0 HNV.out hk
      have HC2 : Hid (∀ j v, [Value.string id, .int .i16 ver, .slice A2 tops.length c2, .slice A3 0 c3, .slice A4 0 c4, .int .i32 gen, .string rack, .bool hr][j]? = some v → wr.cell? ⟨b, off + i * 8 + j, none⟩ = some v) := HC.out
      clear HC
      go_wp2_with (first | (refine wl_load_struct rfl 46 _ rfl Tryz.underlying46 rfl rfl b (off + i * 8) rfl _ rfl HC2.out ?_) | (refine wl_lookup_ok rfl _ _ 75 rfl 79 Tryz.underlying75 str9 _ (Tryz.zeroValue79 _) z _ rfl ((HMAP.out.alloc _)) id rfl ?_; rw [HMG.out]) | (at_builtin; refine wl_append rfl _ _ 44 rfl z 9 Tryz.underlying44 info9 rfl (by decide) u6 i (strs ((ms.take i).map MV.id)) rfl (HNW _ ((((Kept.refl _ _).alloc _).alloc _).alloc _)) (some ⟨wr.heap.size + 1 + 1, 0, none⟩) 1 1 [.string id] rfl (one_sl2 _ _ _ (by simp)) hone1 (by omega) (by omega) (by simp; omega) ?_; intro v' w4 hown hk4 hat; have HOWN := Lib.hid hown; have HK4 := Lib.hid hk4; have HAT := Lib.hid hat; clear hown hk4 hat))
      obtain ⟨B, hB⟩ : ∃ B, wr.heap.size = B := ⟨_, rfl⟩
      have hu6 : ∀ x ∈ u6.ownBlock.toList, z ≤ x ∧ x < B := fun x hx => ⟨own_ge HNV.out x (by simpa using hx), hB ▸ own_lt HNV.out x (by simpa using hx)⟩
      have hK14 : Kept u6.ownBlock.toList wr w4 := ((((Kept.refl [] _).alloc _).alloc _).alloc _).mono (by simp) |>.trans HK4.out (fun x hx => .inl hx)
      have HB : Hid (w4.heap[B]? = some (.cells #[.string id, .int .i16 ver, .slice A2 tops.length c2, .slice A3 0 c3, .slice A4 0 c4, .int .i32 gen, .string rack, .bool hr] 46 (0, 0))) := by
        refine HK4.out.heap ?_ (fun hm => by have := hu6 B hm; omega)
        rw [Below.heap_alloc _ _ _ (by simp; omega), Below.heap_alloc _ _ _ (by simp; omega), ← hB, heap_alloc_new]
      have HT2 : Hid (SlAt w4 X 1 (.slice A2 tops.length c2) (strs tops)) := HTA.out.kept hK14 (fun x hx hm => by have h1 := HG.out.lt x hx; have h2 := hu6 x hm; omega)
      have hz4 : z ∉ u6.ownBlock.toList := fun hm => own_map_ne HNV.out HMAP.out z (by simpa using hm) rfl
      have HMAP4 := Lib.hid (HMAP.out.kept hK14 hz4)
      have hsz4 : B + 3 ≤ w4.heap.size := by have := HK4.out.size; simp at this; omega
      have HK14 := Lib.hid hK14
      clear hK14 HTA HMAP HK4
      rw [hB]
      refine wp_region_facts' 5 (Kept []) (gmF z B w4.heap.size id rack ver gen A2 tops.length c2 A3 c3 A4 c4 hr (strs tops)) mixed (by kernel_rfl) ((Kept.refl _ _).drew) (fun _ _ _ h k => h.trans0 k) gmF_stable ?_ ?_
      · refine ⟨?_, ?_, ?_, ?_, ?_, trivial⟩
        all_goals go_light
        all_goals intro a W hR hs hd
        all_goals have p5 : a.tmps[5]? = some (.map (some z)) := hs.2.2 5 (by decide)
        all_goals have p8 : a.tmps[8]? = some (.pointer (some ⟨B, 0, none⟩)) := hs.2.2 8 (by decide)
        all_goals have hRr : Kept [] W W := Kept.refl [] W
        all_goals have hB' := hR.heap HB.out (by simp)
        all_goals have hc0 : W.cell? ⟨B, 0, none⟩ = some (.string id) := by simp [World.cell?, hB']
        · refine ow_value (w' := W) (v := .map (some z)) ?_ (.mk hRr rfl rfl)
          simp [go_sem, p5]
        · refine ow_value (w' := W) (v := .pointer (some ⟨B, 0, none⟩)) ?_ (.mk hRr rfl rfl)
          simp [go_sem, p8]
        · have q1 : _ = _ := hd.1 rfl
          refine ow_value (w' := W) (v := .string id) ?_ (.mk hRr rfl rfl)
          simp [go_sem, q1, hc0]
        · refine ow_load_struct 46 _ rfl Tryz.underlying46 rfl rfl B 0 (by simp [go_sem, p8]) [.string id, .int .i16 ver, .slice A2 tops.length c2, .slice A3 0 c3, .slice A4 0 c4, .int .i32 gen, .string rack, .bool hr] rfl (fun j v hv => by rw [Nat.zero_add, cell_of_row _ _ _ _ _ _ hB']; simpa using hv) ?_
          exact .mk hRr rfl rfl
        · have q3 : _ = _ := hd.1 rfl
          refine ow_call (w' := W) (f := 41) (args := #[.agg #[.string id, .int .i16 ver, .slice A2 tops.length c2, .slice A3 0 c3, .slice A4 0 c4, .int .i32 gen, .string rack, .bool hr]]) (by simp [go_sem, q3]) (metadata_any id rack ver gen A2 tops.length c2 (strs tops) A3 c3 A4 c4 hr W (by obtain ⟨A', n', c', e, hsl, _⟩ := HT2.out.kept0 hR; cases e; exact hsl) (strs_one _) hn16) ?_
          rintro e w'' ⟨tv, rp, rfl, h1, h2⟩
          exact ⟨_, rfl, .mk h2 ⟨tv, rp, rfl, own_mono h1 hR.size⟩ rfl⟩
      · intro f W hR hf
        obtain ⟨f0, f1, f2, f3, f4, -⟩ := hf
        change f 36 = _ at f0
        change f 37 = _ at f1
        change f 38 = _ at f2
        change f 39 = _ at f3
        change ∃ tv rp, (f 40) = .agg #[.int .i16 ver, tv, .slice none 0 0, .slice none 0 0, .int .i32 gen, .pointer rp] ∧ W.ownsRow w4.heap.size 9 1 tv tops.length (strs tops) at f4
        obtain ⟨x4, g4⟩ : ∃ x, f 40 = x := ⟨_, rfl⟩
        rw [g4] at f4
        simp only [headDsts, List.take_succ_cons, List.take_zero, List.filterMap_cons, List.filterMap_nil, setAll, f0, f1, f2, f3, g4, List.setIfInBounds_toArray, List.set_cons_succ, List.set_cons_zero, List.drop_succ_cons, List.drop_zero]
        clear f0 f1 f2 f3 g4 f
        obtain ⟨tv1, rp1, rfl, hto⟩ := f4
        have hszW := hR.size
        refine wl_update rfl _ _ _ 75 rfl 79 Tryz.underlying75 str9 z _ rfl (HMAP4.out.kept hR (by simp)) id rfl _ rfl ?_
        intro w5 hM5 hK5 hs5
        rw [mset_new _ HMG.out] at hM5
        have hK15 : Kept (z :: u6.ownBlock.toList) wr w5 := ((HK14.out.mono (fun x hx => .tail _ hx)).trans0 hR).trans hK5 (fun x hx => .inl (by rw [List.mem_singleton.1 hx]; exact .head _))
        have hvo : w5.ownsRow z 9 1 v' (i + 1) (strs ((ms.take (i + 1)).map MV.id)) := by
          have h1 := own_kept0 HOWN.out hR
          have h2 := hK5.own h1 (fun g hg hm => own_map_ne h1 (HMAP4.out.kept hR (by simp)) g hg (List.mem_singleton.1 hm))
          rw [take_one HMI.out, List.map_append]
          simpa [strs] using h2
        have hvb : ∀ x, v'.ownBlock = some x → (u6.ownBlock = some x ∨ B ≤ x) ∧ x < w4.heap.size := by
          intro x hx
          refine ⟨?_, own_lt HOWN.out x hx⟩
          rcases HAT.out with h | h
          · exact .inl (h ▸ hx)
          · rw [h] at hx
            have : x = wr.heap.size + 1 + 1 + 1 := by simpa using (Option.some.inj hx).symm
            exact .inr (by omega)
        have hMn : MmAt w5 (fun x => z ≤ x ∧ x < w5.heap.size ∧ v'.ownBlock ≠ some x) z (memList (ms.take (i + 1))) := by
          have hz5 : z < w5.heap.size := by omega
          refine ⟨⟨Nat.le_refl _, hz5, fun h => own_map_ne HOWN.out HMAP4.out z h rfl⟩, mm ++ [(id, _, tops)], by simpa using hM5, ?_, ?_⟩
          · rw [take_one HMI.out, List.map_append, HMML.out]
            simp [memList]
          · intro e he
            rcases List.mem_append.1 he with he | he
            · obtain ⟨ver', tv', gen', rp', h1, h2⟩ := HMMV.out e he
              refine ⟨ver', tv', gen', rp', h1, (h2.kept hK15 (fun x hx hm => ?_)).mono (fun x hx => ⟨⟨hx.1.1, by omega, fun h => ?_⟩, hx.2⟩)⟩
              · rcases List.mem_cons.1 hm with h | h
                · exact hx.2 h
                · exact hx.1.2.2 (by simpa using h)
              · rcases (hvb x h).1 with h3 | h3
                · exact hx.1.2.2 h3
                · have := hx.1.2.1
                  omega
            · have he' := List.mem_singleton.1 he
              subst he'
              have h1 := hK5.own hto (fun g hg hm => own_map_ne hto (HMAP4.out.kept hR (by simp)) g hg (List.mem_singleton.1 hm))
              refine ⟨ver, tv1, gen, rp1, rfl, (SlAt.own h1).mono (fun x hx => ⟨⟨by omega, hx.2.2, fun h => ?_⟩, by omega⟩)⟩
              have := (hvb x h).2
              omega
        have hKn : Kept [] w w5 := HKR.out.trans hK15 (fun x hx => .inr (by
          rcases List.mem_cons.1 hx with h | h
          · omega
          · have := hu6 x h; omega))
        have HVO := Lib.hid hvo
        have HMN := Lib.hid hMn
        have HKN := Lib.hid hKn
        clear hto hM5 hK5 hK15 hvo hvb hMn hKn hR
        go_wp2
        go_roundg (ms.length - (i + 1))
        case measure => omega
        case rel => exact ⟨i + 1, rfl, by omega, rfl, HVO.out, HMN.out, HKN.out⟩
    · obtain rfl : i = ms.length := by omega
      have hlt' : ¬ (ms.length : Int) < (ms.length : Int) := by omega
      have hnf : wr.ownsRow z 9 1 u6 ms.length (strs (ms.map MV.id)) := by have := HNV.out; rwa [List.take_length] at this
      have hmf1 : MmAt wr (fun x => z ≤ x ∧ x < wr.heap.size ∧ u6.ownBlock ≠ some x) z (memList ms) := by have := HMM.out; rwa [List.take_length] at this
      have HNF := Lib.hid hnf
      have HMF := Lib.hid hmf1
      clear hnf hmf1 HNV HMM
      have hfind := K.find
      have hna := K.ahead
      have hent := K.enters
      have HTOLD : Hid (Told (memList ms) (topList ts)) := ⟨by simpa [memList] using HG.out.one, by simpa [memList] using hl7, by simpa [memList, List.map_map, Function.comp_def] using HG.out.ids, fun p hp => by obtain ⟨m, hm, rfl⟩ := List.mem_map.1 hp; exact ⟨(HG.out.once m hm).1, (HG.out.once m hm).2.2.2⟩, by simpa [topList, List.map_map, Function.comp_def] using HG.out.names, by simpa [topList] using HG.out.twelve, fun p hp => by obtain ⟨s, hs, rfl⟩ := List.mem_map.1 hp; exact HG.out.few s hs⟩
      go_wp2
      refine wp_region_facts' 13 (RQ Ok wr.heap.size) (gqF z wr.heap.size kind T Ok tv (topList ts) (fun F => Good (memList ms) (topList ts) F ∧ Few (topList ts) F)) mixed (by kernel_rfl) (RQ.kept0 K.ok ((Kept.refl _ _).drew)) (fun _ _ _ h k => h.trans k) gqF_stable ?_ ?_
      · refine ⟨?_, ?_, ?_, ?_, ?_, ?_, ?_, ?_, ?_, ?_, ?_, ?_, ?_, trivial⟩
        all_goals go_light
        all_goals intro a W hR hs hd
        all_goals have p1 : a.tmps[1]? = some (.pointer (some ⟨bn, 0, none⟩)) := hs.2.2 1 (by decide)
        all_goals have p2 : a.tmps[2]? = some (.pointer (some ⟨bt, 0, none⟩)) := hs.2.2 2 (by decide)
        all_goals have p5 : a.tmps[5]? = some (.map (some z)) := hs.2.2 5 (by decide)
        all_goals have hRr : RQ Ok wr.heap.size W W := RQ.kept0 K.ok (Kept.refl [] W)
        all_goals have hQ := Lib.hid hR
        all_goals obtain ⟨TS, hTS, hKT⟩ := hR.k
        all_goals have hKwW : Kept [] w W := HKR.out.trans hKT (fun x hx => .inr (by have h1 := hTS x hx; have h2 := HKR.out.size; omega))
        all_goals have hcn : W.cell? ⟨bn, 0, none⟩ = some (.int .i64 kind) := hKwW.cell HN.out (by simp)
        all_goals have hct : W.cell? ⟨bt, 0, none⟩ = some tv := hKwW.cell HTV.out (by simp)
        · refine ow_value (w' := W) (v := .int .i64 kind) ?_ (.mk hRr rfl rfl)
          simp [go_sem, p1, hcn]
        · have q0 : _ = _ := hd.1 rfl
          refine ow_call (w' := W) (f := 42) (args := #[.int .i64 kind]) (by simp [go_sem, q0]) (K.made W (K.init _ _ HINI.out hKwW)) ?_
          rintro e w'' ⟨bs, rfl, h1, h2, h3⟩
          exact ⟨_, rfl, .mk (RQ.kept0 K.ok h2) ⟨bs, rfl, h1, Nat.le_trans hKT.size h3⟩ rfl⟩
        · refine ow_value (w' := W) (v := .map (some z)) ?_ (.mk hRr rfl rfl)
          simp [go_sem, p5]
        · refine ow_value (w' := W) (v := tv) ?_ (.mk hRr rfl rfl)
          simp [go_sem, p2, hct]
        · have q3 : _ = _ := hd.1 rfl
          refine ow_call (w' := W) (f := 43) (args := #[tv]) (by simp [go_sem, q3]) (topicMap_any X tv ts W (HG.out.tops.kept0 hKwW) HG.out.names HG.out.few) ?_
          rintro e w'' ⟨tb, rfl, h1, h2⟩
          exact ⟨_, rfl, .mk (RQ.kept0 K.ok h2) ⟨tb, rfl, h1.mono (fun x hx => Nat.le_trans hKT.size hx.1)⟩ rfl⟩
        · have q1 := hd.1 rfl
          obtain ⟨bs, q1, hbs⟩ := q1
          change _ = _ at q1
          refine ow_value (w' := W) (v := .func (.method "Plan") #[.iface T (.pointer (some ⟨bs, 0, none⟩))] #[]) ?_ (.mk hRr ⟨_, rfl⟩ rfl)
          simp [go_sem, q1]
        · have q5 := hd.1 rfl
          obtain ⟨bs, q5⟩ := q5
          change _ = _ at q5
          refine ow_value (w' := W) (v := .func (.method "Plan") #[.iface T (.pointer (some ⟨bs, 0, none⟩))] #[]) ?_ (.mk hRr trivial rfl)
          simp [go_sem, q5, hna]
        · have q1 := hd.1 rfl
          obtain ⟨bs, q1, hbs⟩ := q1
          change _ = _ at q1
          refine ow_value (w' := W) (v := .iface T (.pointer (some ⟨bs, 0, none⟩))) ?_ (.mk hRr ⟨bs, rfl, hbs⟩ rfl)
          simp [go_sem, q1]
        · have q7 := hd.1 rfl
          have q2 : _ = _ := hd.2.1 rfl
          have q4 := hd.2.2.1 rfl
          obtain ⟨bs, q7, hbs⟩ := q7
          change _ = _ at q7
          obtain ⟨tb, q4, htb⟩ := q4
          change _ = _ at q4
          refine ow_call (w' := W) (f := M) (args := #[.pointer (some ⟨bs, 0, none⟩), .map (some z), .map (some tb)]) (by simp [go_sem, q7, q2, q4, hfind, hent]) (K.call W bs z tb (memList ms) (topList ts) hbs.1 ((HMF.out.kept hKT (fun x hx hm => by have h1 := hTS x hm; omega)).lt) htb.lt HTOLD.out HPRE.out) ?_
          rintro e w'' ⟨pb, S, F, rfl, h1, h2, h4, h5, h3⟩
          exact ⟨_, rfl, .mk (h3.elim (RQ.kc K.okc hbs.2) (RQ.kept0 K.ok)) ⟨pb, S, F, rfl, h1, fun x hx => Nat.le_trans hKT.size (h2 x hx), h4, h5⟩ rfl⟩
        · have q8 := hd.1 rfl
          obtain ⟨pb, S, F, q8, h1, h2⟩ := q8
          change _ = _ at q8
          refine ow_value (w' := W) (v := .tuple #[.map (some pb), .nilIface]) ?_ (.mk hRr ⟨pb, S, F, rfl, h1, h2⟩ rfl)
          simp [go_sem, q8]
        · have q9 := hd.1 rfl
          obtain ⟨pb, S, F, q9, h1, h2⟩ := q9
          change _ = _ at q9
          refine ow_value (w' := W) (v := .map (some pb)) ?_ (.mk hRr ⟨pb, S, F, rfl, h1, h2⟩ rfl)
          simp [go_sem, q9]
        · have q9 := hd.1 rfl
          obtain ⟨pb, S, F, q9, h1, h2⟩ := q9
          change _ = _ at q9
          refine ow_value (w' := W) (v := .nilIface) ?_ (.mk hRr rfl rfl)
          simp [go_sem, q9]
        · have q10 := hd.1 rfl
          obtain ⟨pb, S, F, q10, h1, h2⟩ := q10
          change _ = _ at q10
          refine ow_value (w' := W) (v := .map (some pb)) ?_ (.mk hRr ⟨pb, S, F, rfl, h1, h2⟩ rfl)
          simp [go_sem, q10]
      · intro f W hRQ hf
        obtain ⟨TS, hTS, hR⟩ := hRQ.k
        clear hRQ
        obtain ⟨f0, f1, f2, f3, f4, f5, f6, f7, f8, f9, f10, f11, f12, -⟩ := hf
        change f 43 = _ at f0
        change ∃ bs, (f 44) = .iface T (.pointer (some ⟨bs, 0, none⟩)) ∧ Ok bs W ∧ wr.heap.size ≤ bs at f1
        obtain ⟨x1, g1⟩ : ∃ x, f 44 = x := ⟨_, rfl⟩
        rw [g1] at f1
        change f 45 = _ at f2
        change f 46 = _ at f3
        change ∃ tb, (f 47) = .map (some tb) ∧ TmAt W (fun x => wr.heap.size ≤ x) tb (topList ts) at f4
        obtain ⟨x4, g4⟩ : ∃ x, f 47 = x := ⟨_, rfl⟩
        rw [g4] at f4
        change ∃ bs, (f 48) = .func (.method "Plan") #[.iface T (.pointer (some ⟨bs, 0, none⟩))] #[] at f5
        obtain ⟨x5, g5⟩ : ∃ x, f 48 = x := ⟨_, rfl⟩
        rw [g5] at f5
        clear f6
        obtain ⟨x6, f6⟩ : ∃ x, f 49 = x := ⟨_, rfl⟩
        change ∃ bs, (f 50) = .iface T (.pointer (some ⟨bs, 0, none⟩)) ∧ Ok bs W ∧ wr.heap.size ≤ bs at f7
        obtain ⟨x7, g7⟩ : ∃ x, f 50 = x := ⟨_, rfl⟩
        rw [g7] at f7
        change ∃ pb S F, (f 51) = .tuple #[.map (some pb), .nilIface] ∧ PlanIs W S pb F ∧ (∀ x ∈ S, wr.heap.size ≤ x) ∧ Good (memList ms) (topList ts) F ∧ Few (topList ts) F at f8
        obtain ⟨x8, g8⟩ : ∃ x, f 51 = x := ⟨_, rfl⟩
        rw [g8] at f8
        change ∃ pb S F, (f 42) = .tuple #[.map (some pb), .nilIface] ∧ PlanIs W S pb F ∧ (∀ x ∈ S, wr.heap.size ≤ x) ∧ Good (memList ms) (topList ts) F ∧ Few (topList ts) F at f9
        obtain ⟨x9, g9⟩ : ∃ x, f 42 = x := ⟨_, rfl⟩
        rw [g9] at f9
        change ∃ pb S F, (f 52) = .map (some pb) ∧ PlanIs W S pb F ∧ (∀ x ∈ S, wr.heap.size ≤ x) ∧ Good (memList ms) (topList ts) F ∧ Few (topList ts) F at f10
        obtain ⟨x10, g10⟩ : ∃ x, f 52 = x := ⟨_, rfl⟩
        rw [g10] at f10
        change f 53 = _ at f11
        change ∃ pb S F, (f 11) = .map (some pb) ∧ PlanIs W S pb F ∧ (∀ x ∈ S, wr.heap.size ≤ x) ∧ Good (memList ms) (topList ts) F ∧ Few (topList ts) F at f12
        obtain ⟨x12, g12⟩ : ∃ x, f 11 = x := ⟨_, rfl⟩
        rw [g12] at f12
        simp only [headDsts, List.take_succ_cons, List.take_zero, List.filterMap_cons, List.filterMap_nil, setAll, f0, g1, f2, f3, g4, g5, f6, g7, g8, g9, g10, f11, g12, List.setIfInBounds_toArray, List.set_cons_succ, List.set_cons_zero, List.drop_succ_cons, List.drop_zero]
        clear f0 g1 f2 f3 g4 g5 f6 g7 g8 g9 g10 f11 g12 f
        obtain ⟨pb, S, F, rfl, hPl, hSx, hGd, hFew⟩ := f12
        have HGD := Lib.hid hGd
        have HFEW := Lib.hid hFew
        clear hGd hFew
        obtain ⟨ks, I, M, hPW⟩ := hPl
        have hKwW : Kept [] w W := HKR.out.trans hR (fun x hx => .inr (by have h1 := hTS x hx; have h2 := HKR.out.size; omega))
        have HOKW := Lib.hid (hKwW.heap HOK.out (by simp))
        have HPPW := Lib.hid (hKwW.heap HPP.out (by simp))
        have HNW := Lib.hid (hR.own HNF.out (fun g hg hm => by have h1 := own_lt HNF.out g hg; have h2 := hTS g hm; omega))
        have hwrz : z ≤ wr.heap.size := by rw [← hz]; exact HKR.out.size
        have hSb : ∀ x ∈ S, x ≠ bok ∧ x ≠ bp := fun x hx => by have := hSx x hx; omega
        have HPW := Lib.hid hPW
        have HKW := Lib.hid hKwW
        have HSX := Lib.hid hSx
        have HR := Lib.hid hR
        clear hPW hKwW hSx hR f1 f4 f5 f7 f8 f9 f10 HMF hfind hna hent
        have hcok : W.cell? ⟨bok, 0, none⟩ = some (.bool false) := by have := HOKW.out; simp [World.cell?, this]
        have hfok : W.frozen? ⟨bok, 0, none⟩ = false := by have := HOKW.out; simp [World.frozen?, this]
        obtain ⟨g, cap, hu6⟩ : ∃ g cap, u6 = .slice (some ⟨g, 0, none⟩) ms.length cap := by
          rcases HNW.out.2 with ⟨_, h⟩ | ⟨g, cap, _, h, _⟩
          · have := HG.out.one; omega
          · exact ⟨g, cap, h⟩
        subst hu6
        have hgz : z ≤ g := own_ge HNW.out g rfl
        have HS := Lib.hid (fun W' (hk : Kept [bok] W W') => slicesSort_own g ms.length cap (ms.map MV.id) W' (own_mono (hk.own HNW.out (own_cells_ne HNW.out HOKW.out (by decide))) (Nat.zero_le _)) (by omega))
        go_wp2_with (with_reducible refine (HS.out _ ((Kept.refl _ _).setCell (.inl (by simp)) _)).mono ?_; rintro e w6 ⟨rfl, ho6, hk6⟩; have HO6 := Lib.hid ho6; have HK6 := Lib.hid hk6; clear ho6 hk6)
        have hglt : g < wr.heap.size := own_lt HNF.out g rfl
        have hok5 := heap_setCell_same W bok 0 _ 4 (.bool true) HOKW.out
        have HOK6 : Hid (w6.heap[bok]? = some (.cells #[.bool true] 4 (0, 0))) := HK6.out.heap hok5 (fun hm => by have := List.mem_singleton.1 hm; omega)
        have hK5 : Kept [bok] W (W.setCell ⟨bok, 0, none⟩ (.bool true)) := (Kept.refl _ _).setCell (.inl (by simp)) _
        have HPP6 : Hid (w6.heap[bp]? = some (.cells #[.slice none 0 0] 30 (0, 0))) := HK6.out.heap (hK5.heap HPPW.out (fun hm => hne (List.mem_singleton.1 hm).symm)) (fun hm => by have := List.mem_singleton.1 hm; omega)
        have HP6 : Hid (PlanWith w6 S pb F ks I M) := (HPW.out.kept hK5 (fun x hx hm => (hSb x hx).1 (List.mem_singleton.1 hm))).kept HK6.out (fun x hx hm => by have h1 := HSX.out x hx; have h2 := List.mem_singleton.1 hm; omega)
        have HK06 : Hid (Kept [bok] w w6) := ((HKW.out.mono (by simp)).trans hK5 (fun x hx => .inl hx)).trans HK6.out (fun x hx => .inr (by have := List.mem_singleton.1 hx; omega))
        have hwz6 : wr.heap.size ≤ w6.heap.size := Nat.le_trans HR.out.size (Nat.le_trans hK5.size HK6.out.size)
        obtain ⟨zz, hzz⟩ : ∃ zz, w6.heap.size = zz := ⟨_, rfl⟩
        rw [hzz] at hwz6
        obtain ⟨l0, hl0⟩ : ∃ l0, srt (ms.map MV.id) = l0 := ⟨_, rfl⟩
        rw [hl0] at HO6
        have hl0n : l0.length = ms.length := by rw [← hl0, srt_len, List.length_map]
        clear hok5 hK5 HPW HS HPPW HOKW HNW HNF HKW hcok hfok
        go_loopg [60] ms.length (fun k x wr => ∃ j v L, k = ms.length - j ∧ j ≤ ms.length ∧ x = .int .i64 j ∧ wr.heap[bp]? = some (.cells #[v] 30 (0, 0)) ∧ L.length ≤ j * 12 ∧ L.map Prod.fst = (l0.take j).flatMap (fun id => (srt (fullTops (F id) (ts.map Sh.top))).map (mkSh id (F id))) ∧ wr.ownsRow zz 53 3 v L.length (shFlat L) ∧ (∀ p ∈ L, wr.ownsRow zz 21 1 p.2 p.1.parts.length (ints p.1.parts)) ∧ Kept [bp] w6 wr)
        case atStart => exact ⟨0, _, [], rfl, Nat.zero_le _, rfl, HPP6.out, by simp, by simp, World.ownsRow_nil _ _ _ _, by simp, Kept.refl _ _⟩
        case round =>
          obtain ⟨j, pv, L, hk, hj, rfl, hbp, hLn, hLm, hLo, hLp, hK6⟩ := hrel
          have HBP := Lib.hid hbp
          have HLM := Lib.hid hLm
          have HLO := Lib.hid hLo
          have HLPx := Lib.hid hLp
          have HK6r := Lib.hid hK6
          clear hbp hLm hLo hLp hK6
          by_cases hlt : j < ms.length
          · have hlt' : (j : Int) < (ms.length : Int) := by omega
            obtain ⟨id, hid⟩ : ∃ id, l0[j]? = some id := ⟨_, List.getElem?_eq_getElem (by omega)⟩
            have hidc : wr.cell? ⟨g, j, none⟩ = some (.string id) := HK6r.out.cell (own_cell HO6.out (i := j) (v := .string id) (by simp [strs, hid])).1 (fun hm => by have := List.mem_singleton.1 hm; simp at this; omega)
            have HID := Lib.hid hid
            have HPW : Hid (PlanWith wr S pb F ks I M) := HP6.out.kept HK6r.out (fun x hx hm => (hSb x hx).2 (List.mem_singleton.1 hm))
            have HOUT := Lib.hid HPW.out.outer
            have HCP : Hid (wr.cell? ⟨bp, 0, none⟩ = some pv) := by have := HBP.out; simp [Hid, World.cell?, this]
            obtain ⟨nv, hnv⟩ : ∃ nv, (mget (ks.map fun k => (k, Value.map (some (I k)))) id).getD (.map none) = nv := ⟨_, rfl⟩
            have hwrz2 : zz ≤ wr.heap.size := by rw [← hzz]; exact HK6r.out.size
            clear hid
            go_wp2
            refine wp_region_facts' 6 (Kept []) (gsF pv nv pb wr.heap.size id ((srt (fullTops (F id) (ts.map Sh.top))).map (mkSh id (F id)))) mixed (by kernel_rfl) ((Kept.refl _ _).drew) (fun _ _ _ h k => h.trans0 k) gsF_stable ?_ ?_
            · refine ⟨?_, ?_, ?_, ?_, ?_, ?_, trivial⟩
              all_goals go_light
              all_goals intro a W hR hs hd
              all_goals have p4 : a.tmps[4]? = some (.pointer (some ⟨bp, 0, none⟩)) := hs.2.2 4 (by decide)
              all_goals have p14 : a.tmps[14]? = some (.string id) := hs.2.2 14 (by decide)
              all_goals have p11 : a.tmps[11]? = some (.map (some pb)) := hs.2.2 11 (by decide)
              all_goals have hRr : Kept [] W W := Kept.refl [] W
              all_goals have hcp : W.cell? ⟨bp, 0, none⟩ = some pv := hR.cell HCP.out (by simp)
              · refine ow_value (w' := W) (v := pv) ?_ (.mk hRr rfl rfl)
                simp [go_sem, p4, hcp]
              · refine ow_value (w' := W) (v := .string id) ?_ (.mk hRr rfl rfl)
                simp [go_sem, p14]
              · refine ow_value (w' := W) (v := .map (some pb)) ?_ (.mk hRr rfl rfl)
                simp [go_sem, p11]
              · refine ow_value (w' := W) (v := .string id) ?_ (.mk hRr rfl rfl)
                simp [go_sem, p14]
              · have q2 : _ = _ := hd.1 rfl
                have q3 : _ = _ := hd.2.1 rfl
                refine ow_value (w' := W) (v := nv) ?_ (.mk hRr rfl rfl)
                have hl := (MapIs.run_lookup (P := Tryz.prog) str9 Tryz.underlying83 (HOUT.out.kept hR (by simp)) (z := .map none) (Tryz.zeroValue89 W) id)
                rw [hnv] at hl
                simp [go_sem, q2, q3, hl]
              · have q1 : _ = _ := hd.1 rfl
                have q4 : _ = _ := hd.2.1 rfl
                have hc := shares_plan (HPW.out.kept hR (by simp)) id (ts.map Sh.top) HG.out.names (by simpa using HG.out.twelve) (fun t ht => by have := HFEW.out.top _ _ ht; simpa [topList, List.map_map, Function.comp_def] using this) (fun t => HFEW.out.len _ _)
                rw [hnv] at hc
                refine ow_call (w' := W) (f := 45) (args := #[.string id, nv]) (by simp [go_sem, q1, q4]) hc ?_
                rintro e w'' ⟨v, L1, rfl, h1, h2, h3, h4⟩
                exact ⟨_, rfl, .mk h4 ⟨L1, h1, own_mono h2 hR.size, fun p hp => own_mono (h3 p hp) hR.size⟩ rfl⟩
            · intro f W hR hf
              obtain ⟨f0, f1, f2, f3, f4, f5, -⟩ := hf
              change f 64 = _ at f0
              change f 65 = _ at f1
              change f 66 = _ at f2
              change f 67 = _ at f3
              change f 68 = _ at f4
              change ∃ L1, L1.map Prod.fst = (srt (fullTops (F id) (ts.map Sh.top))).map (mkSh id (F id)) ∧ W.ownsRow wr.heap.size 53 3 (f 69) L1.length (shFlat L1) ∧ ∀ p ∈ L1, W.ownsRow wr.heap.size 21 1 p.2 p.1.parts.length (ints p.1.parts) at f5
              obtain ⟨x5, g5⟩ : ∃ x, f 69 = x := ⟨_, rfl⟩
              rw [g5] at f5
              simp only [headDsts, List.take_succ_cons, List.take_zero, List.filterMap_cons, List.filterMap_nil, setAll, f0, f1, f2, f3, f4, g5, List.setIfInBounds_toArray, List.set_cons_succ, List.set_cons_zero, List.drop_succ_cons, List.drop_zero]
              clear f0 f1 f2 f3 f4 g5 f
              obtain ⟨L1, hL1, hLo1, hLp1⟩ := f5
              obtain ⟨A1, c1, rfl⟩ := own_form hLo1
              obtain ⟨A1', c1', he1, hsl1, _⟩ := own_sl hLo1
              cases he1
              have hl1 : L1.length ≤ 12 := by
                have h1 := congrArg List.length hL1
                rw [List.length_map, List.length_map, srt_len] at h1
                have h2 : (fullTops (F id) (ts.map Sh.top)).length ≤ (ts.map Sh.top).length := List.length_filter_le _ _
                have h3 := HG.out.twelve
                rw [List.length_map] at h2
                omega
              have hones : ∀ u ∈ shFlat L1, u.oneCell' = true := by
                intro u hu
                obtain ⟨p, hp, hu⟩ := List.mem_flatMap.1 hu
                simp only [shCells, List.mem_cons, List.not_mem_nil, or_false] at hu
                rcases hu with rfl | rfl | rfl
                · rfl
                · rfl
                · exact own_slice_one (hLp1 p hp)
              have hLoW := own_kept0 HLO.out hR
              have hbpW := hR.heap HBP.out (by simp)
              have HLoW := Lib.hid hLoW
              have HbpW := Lib.hid hbpW
              have HL1 := Lib.hid hL1
              have HLp1 := Lib.hid hLp1
              have HSL1 := Lib.hid hsl1
              have HR2 := Lib.hid hR
              have hszW2 := hR.size
              have hbpn : bp ∉ pv.ownBlock.toList := fun hm => own_cells_ne hLoW hbpW (by decide) bp (by simpa using hm) (by simp)
              clear hLoW hbpW hL1 hLp1 hLo1 hsl1 hR
              go_wp2_with (at_builtin; refine wl_append rfl _ _ 30 rfl zz 53 Tryz.underlying30 info53 rfl (by decide) pv L.length (shFlat L) rfl HLoW.out A1 L1.length c1 (shFlat L1) rfl HSL1.out hones (by omega) (by omega) (by omega) ?_; intro v7 w7 hown hk7 hat; obtain ⟨A7, c7, rfl⟩ := own_form hown; have HO7 := Lib.hid hown; have HK7 := Lib.hid hk7; have hb7 := hk7.heap HbpW.out hbpn; have hc7 : w7.cell? ⟨bp, 0, none⟩ = some pv := (by simp [World.cell?, hb7]); have hf7 : w7.frozen? ⟨bp, 0, none⟩ = false := (by simp [World.frozen?, hb7]); clear hown hk7)
              have hbp8 := heap_setCell_same w7 bp 0 _ 30 (Value.slice A7 (L.length + L1.length) c7) hb7
              have hK78 : Kept [bp] w7 (w7.setCell ⟨bp, 0, none⟩ (Value.slice A7 (L.length + L1.length) c7)) := (Kept.refl _ _).setCell (.inl (by simp)) _
              have hO8 := hK78.own HO7.out (own_cells_ne HO7.out hb7 (by decide))
              have hLm8 : (L ++ L1).map Prod.fst = (l0.take (j + 1)).flatMap (fun id => (srt (fullTops (F id) (ts.map Sh.top))).map (mkSh id (F id))) := by
                rw [take_one HID.out, List.map_append, HLM.out, HL1.out]
                simp
              have hO9 : (w7.setCell ⟨bp, 0, none⟩ (Value.slice A7 (L.length + L1.length) c7)).ownsRow zz 53 3 (Value.slice A7 (L.length + L1.length) c7) (L ++ L1).length (shFlat (L ++ L1)) := by
                rw [show shFlat (L ++ L1) = shFlat L ++ shFlat L1 by simp [shFlat], List.length_append]
                exact hO8
              have hLp8 : ∀ p ∈ L ++ L1, (w7.setCell ⟨bp, 0, none⟩ (Value.slice A7 (L.length + L1.length) c7)).ownsRow zz 21 1 p.2 p.1.parts.length (ints p.1.parts) := by
                intro p hp
                have h1 : W.ownsRow zz 21 1 p.2 p.1.parts.length (ints p.1.parts) := by
                  rcases List.mem_append.1 hp with hp | hp
                  · exact own_kept0 (HLPx.out p hp) HR2.out
                  · exact own_mono (HLp1.out p hp) (by omega)
                have h2 := HK7.out.own h1 (own_types_ne h1 HLoW.out (by decide))
                exact hK78.own h2 (own_cells_ne h2 hb7 (by decide))
              have hK8 : Kept [bp] w6 (w7.setCell ⟨bp, 0, none⟩ (Value.slice A7 (L.length + L1.length) c7)) := ((HK6r.out.trans0 HR2.out).trans HK7.out (fun x hx => .inr (by have := own_ge HLoW.out x (by simpa using hx); omega))).trans hK78 (fun x hx => .inl hx)
              have hLn8 : (L ++ L1).length ≤ (j + 1) * 12 := by rw [List.length_append]; omega
              have HB8 := Lib.hid hbp8
              have HLM8 := Lib.hid hLm8
              have HO8 := Lib.hid hO9
              have HLP8 := Lib.hid hLp8
              have HK8 := Lib.hid hK8
              clear hbp8 hK78 hO8 hLm8 hO9 hLp8 hK8 hb7 hc7 hf7 hat
              go_roundg (ms.length - (j + 1))
              case measure => omega
              case rel => exact ⟨j + 1, _, L ++ L1, rfl, by omega, rfl, HB8.out, hLn8, HLM8.out, HO8.out, HLP8.out, HK8.out⟩
          · obtain rfl : j = ms.length := by omega
            have hlt' : ¬ (ms.length : Int) < (ms.length : Int) := by omega
            have hwrz2 : zz ≤ wr.heap.size := by rw [← hzz]; exact HK6r.out.size
            go_wp2
            refine bodyPost_end (results_none rfl _ _ _) rfl ?_
            refine ⟨rfl, pv, L, F, HGD.out, HFEW.out, ?_, HK6r.out.heap HOK6.out (fun hm => hne (List.mem_singleton.1 hm)), HBP.out, ?_, ?_, ?_⟩
            · have h1 := HLM.out
              rw [← hl0n, List.take_length, ← hl0] at h1
              exact h1
            · exact own_mono HLO.out (by omega)
            · exact fun a9 b9 hp9 => own_mono (HLPx.out (a9, b9) hp9) (by omega)
            · exact (HK06.out.mono (fun x hx => by rw [List.mem_singleton.1 hx]; simp)).trans HK6r.out (fun x hx => .inl (by rw [List.mem_singleton.1 hx]; simp))

set_option maxRecDepth 100000 in
set_option maxHeartbeats 3200000 in
/-- GroupPlan. -/
theorem groupPlanT {kind : Nat} {T : TypeId} {M : FuncId} {Init : World → Prop} {Ok : Nat → World → Prop} {Good : List (ByteArray × List ByteArray) → List (ByteArray × List Int) → (ByteArray → ByteArray → List Int) → Prop} {Pre : List (ByteArray × List ByteArray) → List (ByteArray × List Int) → Prop} (K : PlanT kind T M Init Ok Good Pre) (X : Nat → Prop) (mv tv : Value) (ms : List MV) (ts : List Sh) (w : World) (G : Grp w X mv tv ms ts) (hpre : Pre (memList ms) (topList ts)) (hini : Init w) :
    Calls Tryz.prog 20 #[.int .i64 kind, mv, tv] w fun e w' => ∃ (v : Value) (L : List (Sh × Value)) (F : ByteArray → ByteArray → List Int), e = .returned (.tuple #[v, .bool true]) ∧ Good (memList ms) (topList ts) F ∧ Few (topList ts) F ∧ L.map Prod.fst = canon F (ms.map MV.id) (ts.map Sh.top) ∧
        w'.ownsRow w.heap.size 53 3 v L.length (shFlat L) ∧ (∀ p ∈ L, w'.ownsRow w.heap.size 21 1 p.2 p.1.parts.length (ints p.1.parts)) ∧ Kept [] w w' := by
  obtain ⟨A, n, c, rfl, _⟩ := G.mems.1
  obtain ⟨l', hl', ⟨At, nt, ct, rfl, _⟩, _⟩ := G.tops
  have HPRE := Lib.hid hpre
  have HINI := Lib.hid hini
  clear hini
  have HG := Lib.hid G
  have hmf : ∀ (fn : Fn) (first cap : Array Value) (w : World), (Instr.makeFunc fn first cap).run Tryz.prog w = .ok (.func fn first cap) w := fun _ _ _ _ => rfl
  clear G hpre hl'
  go_enter Tryz.func20, Tryz.ntmps20
  go_wp2_with fail
  obtain ⟨W5, hW5⟩ : ∃ W5, W5 = (((((w.alloc (Obj.cells #[Value.int IntKind.i64 kind] 3)).alloc (Obj.cells #[Value.slice A n c] 29)).alloc (Obj.cells #[Value.slice At nt ct] 30)).alloc (Obj.cells #[Value.slice none 0 0] 30)).alloc (Obj.cells #[Value.bool false] 4)) := ⟨_, rfl⟩
  rw [← hW5]
  obtain ⟨z, hz⟩ : ∃ z, w.heap.size = z := ⟨_, rfl⟩
  have s1 : ∀ (o : Obj), (w.alloc o).heap.size = z + 1 := fun o => by simp [hz]
  have s2 : ∀ (o p : Obj), ((w.alloc o).alloc p).heap.size = z + 2 := fun o p => by simp [hz]
  have s3 : ∀ (o p q : Obj), (((w.alloc o).alloc p).alloc q).heap.size = z + 3 := fun o p q => by simp [hz]
  have s4 : ∀ (o p q r : Obj), ((((w.alloc o).alloc p).alloc q).alloc r).heap.size = z + 4 := fun o p q r => by simp [hz]
  have hs5 : W5.heap.size = z + 5 := by rw [hW5]; simp [hz]
  have b0 : W5.heap[z]? = some (.cells #[.int .i64 kind] 3 (0, 0)) := by
    rw [hW5, Below.heap_alloc _ _ _ (by rw [s4]; omega), Below.heap_alloc _ _ _ (by rw [s3]; omega), Below.heap_alloc _ _ _ (by rw [s2]; omega), Below.heap_alloc _ _ _ (by rw [s1]; omega), ← hz, heap_alloc_new]
  have b1 : W5.heap[z + 1]? = some (.cells #[.slice A n c] 29 (0, 0)) := by
    rw [hW5, Below.heap_alloc _ _ _ (by rw [s4]; omega), Below.heap_alloc _ _ _ (by rw [s3]; omega), Below.heap_alloc _ _ _ (by rw [s2]; omega), ← s1 (Obj.cells #[Value.int IntKind.i64 kind] 3), heap_alloc_new]
  have b2 : W5.heap[z + 2]? = some (.cells #[.slice At nt ct] 30 (0, 0)) := by
    rw [hW5, Below.heap_alloc _ _ _ (by rw [s4]; omega), Below.heap_alloc _ _ _ (by rw [s3]; omega), ← s2 (Obj.cells #[Value.int IntKind.i64 kind] 3) (Obj.cells #[Value.slice A n c] 29), heap_alloc_new]
  have b3 : W5.heap[z + 3]? = some (.cells #[.slice none 0 0] 30 (0, 0)) := by
    rw [hW5, Below.heap_alloc _ _ _ (by rw [s4]; omega), ← s3 (Obj.cells #[Value.int IntKind.i64 kind] 3) (Obj.cells #[Value.slice A n c] 29) (Obj.cells #[Value.slice At nt ct] 30), heap_alloc_new]
  have b4 : W5.heap[z + 4]? = some (.cells #[.bool false] 4 (0, 0)) := by
    rw [hW5, ← s4 (Obj.cells #[Value.int IntKind.i64 kind] 3) (Obj.cells #[Value.slice A n c] 29) (Obj.cells #[Value.slice At nt ct] 30) (Obj.cells #[Value.slice none 0 0] 30), heap_alloc_new]
  have hK5 : Kept [] w W5 := by rw [hW5]; exact (((((Kept.refl _ _).alloc _).alloc _).alloc _).alloc _).alloc _
  clear hW5
  rw [hz]
  simp only [Nat.add_assoc, Nat.reduceAdd]
  obtain ⟨W6, hW6⟩ : ∃ W6, W6 = W5.alloc (.cells #[.bool false] 4) := ⟨_, rfl⟩
  have hK6 : Kept [] W5 W6 := by rw [hW6]; exact (Kept.refl _ _).alloc _
  have hcl := groupClosureT K X (.slice A n c) (.slice At nt ct) ms ts (z + 1) z (z + 2) (z + 4) (z + 3) W6 ((HG.out.kept0 hK5).kept0 hK6) HPRE.out (K.init _ _ (K.init _ _ HINI.out hK5) hK6)
    (by have := hK6.heap b1 (by simp); simp [World.cell?, this]) (by have := hK6.heap b0 (by simp); simp [World.cell?, this]) (by have := hK6.heap b2 (by simp); simp [World.cell?, this]) (hK6.heap b4 (by simp)) (hK6.heap b3 (by simp)) (by omega)
  have h6 : W6.heap[z + 5]? = some (.cells #[.bool false] 4 (0, 0)) := by rw [hW6, ← hs5, heap_alloc_new]
  have hcf : ∀ (args : Array Value) (w : World), (callFunc 40 args).run Tryz.prog w = .ok (.enter 40 args) w := enters_of Tryz.func40 (by kernel_rfl) rfl
  rw [hW6] at hcl
  have hsafe := safe_any 40 _ W5 _ (fun W => hcf _ W) hcl (fun W' hR => by
    obtain ⟨v, L, F, _, _, _, _, _, _, _, hk⟩ := hR
    rw [hs5]
    refine hk.heap ?_ (by simp)
    rw [← hs5, heap_alloc_new])
  refine hsafe.mono ?_
  rintro e w7 ⟨rfl, W', ⟨v, L, F, hGd, hFew, hLm, hb4, hb3, hLo, hLp, hk⟩, hk7⟩
  rw [hs5] at hk7
  have hb4' := hk7.heap hb4 (by simp)
  have hb3' := hk7.heap hb3 (by simp)
  rw [← hW6] at hLo hLp hk
  have hs6 : W6.heap.size = z + 6 := by rw [hW6]; simp [hs5]
  rw [hs6] at hLo
  have hLo7 := hk7.own hLo (fun g hg hm => by have h1 := own_ge hLo g hg; have h2 := List.mem_singleton.1 hm; omega)
  have hLp7 : ∀ p ∈ L, w7.ownsRow (z + 6) 21 1 p.2 p.1.parts.length (ints p.1.parts) := fun p hp => by
    have h0 := hLp p hp
    rw [hs6] at h0
    exact hk7.own h0 (fun g hg hm => by have h1 := own_ge h0 g hg; have h2 := List.mem_singleton.1 hm; omega)
  have hkw7 : Kept [] w w7 := (((hK5.trans0 hK6).trans hk (fun x hx => .inr (by simp at hx; omega)))).trans hk7 (fun x hx => .inr (by simp at hx; omega))
  obtain ⟨Av, cv, rfl⟩ := own_form hLo7
  have HLO := Lib.hid hLo7
  have HGD := Lib.hid hGd
  have HFEW := Lib.hid hFew
  have HLP := Lib.hid hLp7
  have HKW := Lib.hid hkw7
  have HLM := Lib.hid hLm
  have HB3 := Lib.hid hb3'
  have HB4 := Lib.hid hb4'
  have c3 : w7.cell? ⟨z + 3, 0, none⟩ = some (.slice Av L.length cv) := by simp [World.cell?, hb3']
  have c4 : w7.cell? ⟨z + 4, 0, none⟩ = some (.bool true) := by simp [World.cell?, hb4']
  have g3 : w7.frozen? ⟨z + 3, 0, none⟩ = false := by simp [World.frozen?, hb3']
  have g4 : w7.frozen? ⟨z + 4, 0, none⟩ = false := by simp [World.frozen?, hb4']
  clear hGd hFew hLo hLp hLm hk hk7 hb3 hb4 hLo7 hLp7 hkw7 hcl hsafe b0 b1 b2 b3 b4 hb3' hb4' h6 hcf hW6 HG hK5 hK6
  go_wp2
  have e3 := heap_setCell_same w7 (z + 3) 0 _ 30 (.slice Av L.length cv) HB3.out
  have e4 : (w7.setCell ⟨z + 3, 0, none⟩ (.slice Av L.length cv)).heap[z + 4]? = some (.cells #[.bool true] 4 (0, 0)) := by
    rw [heap_setCell_other _ _ _ _ (by simp)]
    exact HB4.out
  have e4' := heap_setCell_same _ (z + 4) 0 _ 4 (.bool true) e4
  have e3' : ((w7.setCell ⟨z + 3, 0, none⟩ (.slice Av L.length cv)).setCell ⟨z + 4, 0, none⟩ (.bool true)).heap[z + 3]? = some (.cells #[.slice Av L.length cv] 30 (0, 0)) := by
    rw [heap_setCell_other _ _ _ _ (by simp)]
    exact e3
  have hK : Kept [z + 3, z + 4] w7 ((w7.setCell ⟨z + 3, 0, none⟩ (.slice Av L.length cv)).setCell ⟨z + 4, 0, none⟩ (.bool true)) := ((Kept.refl _ _).setCell (.inl (by simp)) _).setCell (.inl (by simp)) _
  obtain ⟨w8, hw8⟩ : ∃ w8, (w7.setCell ⟨z + 3, 0, none⟩ (.slice Av L.length cv)).setCell ⟨z + 4, 0, none⟩ (.bool true) = w8 := ⟨_, rfl⟩
  rw [hw8] at e4' e3' hK ⊢
  have r3 : w8.cell? ⟨z + 3, 0, none⟩ = some (.slice Av L.length cv) := by simp [World.cell?, e3']
  have r4 : w8.cell? ⟨z + 4, 0, none⟩ = some (.bool true) := by simp [World.cell?, e4']
  clear hw8 e3 e4 e3' e4' c3 c4 g3 g4 hmf
  refine bodyPost_ret (v := .tuple #[.slice Av L.length cv, .bool true]) (by simp [results, Tryz.results20, go_sem, r3, r4]) rfl ⟨_, L, F, rfl, HGD.out, HFEW.out, HLM.out, ?_, ?_, ?_⟩
  · have h0 := hK.own HLO.out (fun g hg hm => by have h1 := own_ge HLO.out g hg; simp at hm; omega)
    exact own_mono h0 (by omega)
  · intro p hp
    have h0 := HLP.out p hp
    have h1 := hK.own h0 (fun g hg hm => by have h1 := own_ge h0 g hg; simp at hm; omega)
    exact own_mono h1 (by omega)
  · exact HKW.out.trans hK (fun x hx => .inr (by simp at hx; omega))
end Go.Proofs.YtghgffhcdnmpnaaGreat
