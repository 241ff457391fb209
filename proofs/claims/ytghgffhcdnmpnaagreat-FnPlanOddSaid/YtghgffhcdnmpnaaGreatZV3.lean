/-
  The table of powers lies in every world of the shape that a claim asks for. Conditions: none beyond that shape.
-/
import Derived.Test.YtghgffhcdnmpnaaGreatZW1
import Derived.HandedShaped
import Derived.Test.YtghgffhcdnmpnaaGreatZS4
import Derived.Test.YtghgffhcdnmpnaaGreatZK8
import Derived.Test.YtghgffhcdnmpnaaGreatZW3
import Derived.Test.YtghgffhcdnmpnaaGreatZV1
namespace Go.Proofs.YtghgffhcdnmpnaaGreat
open Go.RowKit
set_option maxRecDepth 100000 in
theorem tab_row : ((begin Tryz.prog (fun _ _ => 0) default).world.heap[2]?).bind Obj.row? = some (Array.replicate 20 (.int .u64 0), 257) := by kernel_rfl
theorem tab_build : Tryz.prog.buildable 257 = true := by kernel_rfl
theorem tab_types : Tryz.prog.cellTypes Tryz.prog.depth 257 = some (List.replicate 20 158) := by kernel_rfl
theorem tab_in : decide (2 < Tryz.prog.globals.size) = true := by kernel_rfl
set_option maxRecDepth 100000 in
theorem u64_of_ok {w : World} {v : Value} (h : Cell.ok Tryz.prog w .any 0 158 v) : ∃ m : Int, v = .int .u64 m := by
  unfold Cell.ok at h
  rw [Tryz.underlying158] at h
  cases v <;> simp at h
  case int k' n => exact ⟨n, by rw [h.1]⟩
set_option maxRecDepth 100000 in
theorem tab20_of_shape {w : World} (h : w.ShapedOpen Tryz.prog) : Tab20 w := by
  obtain ⟨cs, hh, hs, hr⟩ := h.1 2 _ _ (of_decide_eq_true tab_in) tab_row
  obtain ⟨ts, hts, _, hall⟩ := hr tab_build
  rw [tab_types] at hts
  cases hts
  intro i hi
  have hl : i < cs.size := by rw [hs]; simpa using hi
  obtain ⟨u, hu', hok⟩ := hall i cs[i] (by simp [hl])
  have : u = 158 := by
    rw [List.getElem?_replicate, if_pos (by rw [List.length_replicate]; exact Nat.mod_lt _ (by decide))] at hu'
    exact (Option.some.inj hu').symm
  subst this
  have hcell : w.cell? ⟨2, i, none⟩ = some cs[i] := by simp [World.cell?, hh, hl]
  rw [hcell]
  obtain ⟨m, hm⟩ := u64_of_ok hok
  exact ⟨m, by rw [hm]⟩
end Go.Proofs.YtghgffhcdnmpnaaGreat
/-
  What GroupPlan gives by each strategy, whatever the numbers of the partitions are. Conditions: a group that oddFits lets through; the table of powers lies in memory.
-/
namespace Go.Proofs.YtghgffhcdnmpnaaGreat
open Go.RowKit Go.Sort Go.MapKept
theorem PlanQ.toT {kind : Nat} {T : TypeId} {M : FuncId} {Ok : Nat → World → Prop} {Good : List (ByteArray × List ByteArray) → List (ByteArray × List Int) → (ByteArray → ByteArray → List Int) → Prop} {Pre : List (ByteArray × List ByteArray) → List (ByteArray × List Int) → Prop} (K : PlanQ kind T M Ok Good Pre) : PlanT kind T M (fun _ => True) Ok Good Pre where
  init := fun _ _ _ _ => trivial
  made := fun W _ => K.made W
  ok := K.ok
  okc := K.okc
  find := K.find
  ahead := K.ahead
  enters := K.enters
  call := fun W bs mb tb l tm h1 h2 h3 h4 h5 => (K.call W bs mb tb l tm h1 h2 h3 h4 h5).mono fun e w' ⟨pb, S, F, a1, a2, a3, a4, a5, a6⟩ => ⟨pb, S, F, a1, a2, a3, a4, a5, .inl a6⟩
theorem Tab20.kc {c : Nat} {a b : World} (h : Tab20 a) (k : KC c a b) : Tab20 b := by
  intro i hi
  obtain ⟨m, hm⟩ := h i hi
  refine ⟨m, ?_⟩
  by_cases hc : c = 2
  · subst hc
    exact k.cell i _ hm (by intro m' e; cases e)
  · exact k.k.cell hm (by simpa using fun h => hc h.symm)
theorem newRound_at (w : World) : Calls Tryz.prog 62 #[] w fun e w' => ∃ bs, e = .returned (.iface 132 (.pointer (some ⟨bs, 0, none⟩))) ∧ Kept [] w w' ∧ w.heap.size ≤ bs := by
  go_enter Tryz.func62, Tryz.ntmps62
  go_wp2
  go_ret
  exact ⟨_, rfl, (Kept.refl [] w).alloc _, Nat.le_refl _⟩
theorem strategy1_at (w : World) : Calls Tryz.prog 42 #[.int .i64 1] w fun e w' => ∃ bs, e = .returned (.iface 132 (.pointer (some ⟨bs, 0, none⟩))) ∧ Kept [] w w' ∧ w.heap.size ≤ bs := by
  have H := Lib.hid (newRound_at w)
  go_enter Tryz.func42, Tryz.ntmps42
  go_wp2_with ((with_reducible refine H.out.mono ?_); rintro e w1 ⟨bs, rfl, hk, hb⟩; have HK := Lib.hid hk; have HB := Lib.hid hb; clear hk hb)
  go_ret
  exact ⟨_, rfl, HK.out, HB.out⟩
theorem goodRW_few {l : List (ByteArray × List ByteArray)} {tm : List (ByteArray × List Int)} {F : ByteArray → ByteArray → List Int} (h : GoodRW l tm F) (ht : Told l tm) (hp : PreRW l tm) : Few tm F := by
  obtain ⟨Lm, l1, _, h1, rfl⟩ := h
  refine ⟨fun k t hne => ?_, fun k t => ?_⟩
  · obtain ⟨p, hp⟩ := gives_top l1 0 hne
    obtain ⟨x, hx, hx2⟩ := List.mem_flatMap.1 (h1.mem_iff.1 hp)
    obtain ⟨q, _, hq⟩ := List.mem_map.1 hx2
    have : x.1 = t := congrArg Prod.fst hq
    rw [← this]
    exact List.mem_map.2 ⟨x, hx, rfl⟩
  · have h2 := gives_length_le (roundSeq Lm l1 0) k t
    have h3 := roundSeq_len (l := Lm) l1 0
    have h4 := pairsOf_len (L := tm) (fun x hx => (hp.tops x hx).2.2.1)
    have h5 := h1.length_eq
    have h6 := ht.twelve
    omega
set_option maxRecDepth 100000 in
theorem planT1 : PlanT 1 132 169 Tab20 (fun _ W => Tab20 W) GoodRW PreRW where
  init := fun _ _ h k => h.kept0 k
  made := fun W hT => (strategy1_at W).mono fun e w' ⟨bs, h1, h2, h3⟩ => ⟨bs, h1, hT.kept0 h2, h2, h3⟩
  ok := fun _ _ _ h k => h.kept0 k
  okc := fun _ _ _ _ h k => h.kc k
  find := fun _ _ => by kernel_rfl
  ahead := fun _ _ => by kernel_rfl
  enters := enters_of Tryz.func169 (by kernel_rfl) rfl
  call := fun W bs mb tb l tm hO hM hT ht hp => (planRound_weak bs mb tb _ l tm W hM hT (fun _ h => h) ht hp hO).mono fun e w' ⟨pb, S, F, h1, h2, h3, h4, h5⟩ => ⟨pb, S, F, h1, h2, h3, h4, goodRW_few h4 ht hp, .inr h5⟩
theorem plan_outW {ms : List MV} {ts : List Sh} {mv tv : Value} {w : World} (h : GroupOk ms ts) (hp : PreRW (memList ms) (topList ts)) (hT : Tab20 w) (hm : MemsAt w (fun x => x < w.heap.size) mv ms) (ht : ShsAt w (fun x => x < w.heap.size) tv ts) :
    Calls Tryz.prog 20 #[.int .i64 1, mv, tv] w (PlanOut 1 ms ts w) := by
  refine (groupPlanT planT1 _ _ _ _ _ w (h.grp hm ht) hp hT).mono ?_
  rintro e w' ⟨v, L, F, rfl, ⟨Lm, l1, a1, a3, rfl⟩, _, h1, h2, h3, h4⟩
  have hw : ∀ x ∈ l1, ∃ p ∈ Lm, x.1 ∈ p.2 := by
    intro x hx
    obtain ⟨y, hy, hy2⟩ := List.mem_flatMap.1 (a3.mem_iff.1 hx)
    obtain ⟨q, _, rfl⟩ := List.mem_map.1 hy2
    obtain ⟨s, hs, rfl⟩ := List.mem_map.1 hy
    obtain ⟨m, hm, hst⟩ := h.want s hs
    exact ⟨(m.id, m.tops), a1.mem_iff.2 (List.mem_map.2 ⟨m, hm, rfl⟩), hst⟩
  obtain ⟨k1, k2⟩ := whole_seq h.ids h.tops (seq := roundSeq Lm l1 0) (fun x hx => by
    obtain ⟨p, hp, e1, e2⟩ := round_mem hx
    obtain ⟨m, hm, e3, e4⟩ := memList_mem (a1.mem_iff.1 hp)
    exact ⟨m, hm, e3.trans e1, by rw [e4]; exact e2⟩) (by rw [round_snd hw]; exact a3)
  have h5 := own_shs h2 h3
  rw [h1] at h5
  refine ⟨v, _, _, rfl, h5, k1, k2, fun ha => round_spread a1 h.ids (fun x hx p hp => ?_), h4⟩
  obtain ⟨y, hy, hy2⟩ := List.mem_flatMap.1 (a3.mem_iff.1 hx)
  obtain ⟨q, _, rfl⟩ := List.mem_map.1 hy2
  obtain ⟨s, hs, rfl⟩ := List.mem_map.1 hy
  obtain ⟨m, hm, _, e2⟩ := memList_mem (a1.mem_iff.1 hp)
  rw [← e2]
  exact ha s hs m hm
theorem plan_outT {kind : Nat} {T : TypeId} {M : FuncId} {Ok : Nat → World → Prop} (K : PlanT kind T M (fun _ => True) Ok GoodSt PreS) (hk : kind ≠ 0) {ms : List MV} {ts : List Sh} {mv tv : Value} {w : World} (h : GroupOk ms ts) (ha : AskOk ms ts) (hm : MemsAt w (fun x => x < w.heap.size) mv ms) (ht : ShsAt w (fun x => x < w.heap.size) tv ts) :
    Calls Tryz.prog 20 #[.int .i64 kind, mv, tv] w (PlanOut kind ms ts w) := by
  refine (groupPlanT K _ _ _ _ _ w (h.grp hm ht) (h.preS ha) trivial).mono ?_
  rintro e w' ⟨v, L, F, rfl, ⟨Ls, a1, a2, a3, rfl⟩, _, h1, h2, h3, h4⟩
  obtain ⟨k1, k2⟩ := whole_seq h.ids h.tops (seq := seqOf Ls) (fun x hx => sticky_mem a1 a2 ha.all hx) (by rw [seqOf_snd]; exact a2)
  have h5 := own_shs h2 h3
  rw [h1] at h5
  refine ⟨v, _, _, rfl, h5, k1, k2, fun _ => ?_, h4⟩
  rw [if_neg hk]
  exact sticky_spread a1 h.ids a3
/-- GroupPlan by any strategy. -/
theorem plan_outO {s : Nat} (hs : s < 4) {ms : List MV} {ts : List Sh} {mv tv : Value} {w : World} (h : GroupOk ms ts) (h1 : PreRW (memList ms) (topList ts)) (h2 : s = 2 ∨ s = 3 → AskOk ms ts) (hT : Tab20 w) (hm : MemsAt w (fun x => x < w.heap.size) mv ms) (ht : ShsAt w (fun x => x < w.heap.size) tv ts) :
    Calls Tryz.prog 20 #[.int .i64 s, mv, tv] w (PlanOut s ms ts w) := by
  match s, hs with
  | 0, _ => exact plan_out0 h hm ht
  | 1, _ => exact plan_outW h h1 hT hm ht
  | 2, _ => exact plan_outT planQ2.toT (by decide) h (h2 (.inl rfl)) hm ht
  | 3, _ => exact plan_outT planQ3.toT (by decide) h (h2 (.inr rfl)) hm ht
theorem OddOk.ok {ms : List MV} {ts : List Sh} (h : OddOk ms ts) : GroupOk ms ts where
  m1 := h.plain.m1
  m6 := h.plain.m6
  t1 := by have := h.plain.t1; simpa using this
  t6 := by have := h.plain.t6; simpa using this
  want := fun s hs => h.plain.want (plainSh s) (List.mem_map.2 ⟨s, hs, rfl⟩)
  ids := h.plain.inodup
  tops := by
    have h1 := h.plain.tnodup
    rw [List.map_map] at h1
    exact h1
  parts := fun s hs => by
    obtain ⟨i, hi⟩ := List.getElem?_of_mem (List.mem_map.2 ⟨s, hs, rfl⟩ : plainSh s ∈ ts.map plainSh)
    have h1 := h.plain.tops i _ hi
    have h2 : (plainSh s).parts.length = s.parts.length := iota_len _
    have h3 := h1.one
    have h4 := h1.ten
    exact ⟨by omega, by omega, (h.nums s hs).1⟩
  once := h.plain.ok.once
theorem OddOk.pre {ms : List MV} {ts : List Sh} (h : OddOk ms ts) (hi : ∀ s ∈ ts, ∀ p ∈ s.parts, p ≤ 2147483647) : PreRW (memList ms) (topList ts) where
  one := by have := h.ok.t1; simpa [topList] using this
  tops := fun x hx => by
    obtain ⟨s, hs, rfl⟩ := List.mem_map.1 hx
    obtain ⟨i, hii⟩ := List.getElem?_of_mem (List.mem_map.2 ⟨s, hs, rfl⟩ : plainSh s ∈ ts.map plainSh)
    have ht := h.plain.tops i _ hii
    have hw := (word_dash ht.word).2
    have h1 := h.ok.parts s hs
    refine ⟨?_, h1.1, by show s.parts.length ≤ 10000; omega, fun p hp => ?_⟩
    · show (plainSh s).top.size ≤ 1000000
      omega
    · have h2 := (h.nums s hs).2 p hp
      have h3 := hi s hs p hp
      exact ⟨p.toNat, by omega, by omega⟩
end Go.Proofs.YtghgffhcdnmpnaaGreat
