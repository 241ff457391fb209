/-
  SameSteps (21): data and what was read of them are alike. Conditions: few data.
-/
import Derived.Test.YtmpjikihnmagoaaGreatDoorZT42
import Derived.Test.YtmpjikihnmagoaaGreatDoorZR4
set_option maxRecDepth 100000
set_option maxHeartbeats 6400000
namespace Go.Proofs.YtmpjikihnmagoaaGreatDoor
open Go.RowKit
theorem conv_sl {w : World} {A : Option Addr} {n c : Nat} {l : List UInt8} (h : SlIs w 1 A n (Lib.byteCells l)) (hl : l.length = n) : (convert 34 9 (.slice A n c)).run Tryz.prog w = .ok (.string ⟨l.toArray⟩) w:=by
 subst hl
 cases A with
 | some a =>
  refine run_convert_bytes_back w 34 9 5 a c l Tryz.underlying34 Tryz.underlying5 Tryz.underlying9 (fun j hj => ?_)
  obtain ⟨b, off, e, hc⟩:=h.2.2 (by omega)
  cases e
  have h1:=hc j (.int .u8 (l[j].toNat : Int)) (by simp only [Lib.byteCells, List.getElem?_map, List.getElem?_eq_getElem hj, Option.map_some])
  have hadd : (⟨b, off, none⟩ : Addr).add j = ⟨b, off + j, none⟩:=by unfold Addr.add; split <;> simp_all
  rw [hadd]
  exact h1
 | none =>
  have hn : l.length = 0:=by
   rcases Nat.eq_zero_or_pos l.length with h0 | h0
   ·exact h0
   ·obtain ⟨b, off, e, _⟩:=h.2.2 h0
    cases e
  have hnil:=List.eq_nil_of_length_eq_zero hn
  subst hnil
  rw [run_convert_bytes_string w 34 9 5 none ([] : List UInt8).length c Tryz.underlying34 Tryz.underlying5 Tryz.underlying9]
  simp [Conv.bytesToString]
  rfl
theorem rep_getD (n k : Nat) : (Array.replicate n false).getD k false = false:=by
 rw [Array.getD_eq_getD_getElem?, Array.getElem?_replicate]
 split <;> rfl
theorem wpOp_of {P : Program} {ops : Array Oper} {Q : Exit → Act → World → Prop} {i : Nat} {o : Oper} {K : Act → World → Prop} {a : Act} {w : World} (ho : ops[i]? = some o) (hg : o.guard = none) (h : o.wp P a w K Q) : wpOp P ops Q i K a w:=by
 unfold wpOp
 simp only [ho]
 rw [if_pos (by simp [Region.wanted, hg])]
 exact .inl h
theorem wp_region_inv' {P : Program} {ops : Array Oper} {Q : Exit → Act → World → Prop} {id : Nat} {a0 : Act} {w0 : World} (hm : P.follows .mixedOrders = true) (hback : backOk ops = true) (Inv : Act → Array Bool → Act → World → Prop) (h0 : Inv a0 (Array.replicate ops.size false) a0 w0.drew)
  (hstep : ∀ listed a w i o, listed.size = ops.size → Inv a0 listed a w → ops[i]? = some o → listed.getD i true = false → (∀ e ∈ o.after, Region.binds .any e = true → listed.getD e.on false = true) → wpOp P ops Q i (fun a' w' => Inv a0 (listed.setIfInBounds i true) a' w') a w)
  (hend : ∀ listed a w, listed.size = ops.size → Inv a0 listed a w → (∀ i, i < ops.size → listed.getD i true = true) → Q .normal a w) : (Code.region id ops true).wp P Q a0 w0:=wp_region_inv hm hback (Inv a0) h0 hstep hend
theorem blk_cell {t : TypeId} {w : World} {g : Nat} {cs : List Value} (h : BlkIs t w g cs) (k : Nat) (v : Value) (hv : cs[k]? = some v) : w.cell? ⟨g, k, none⟩ = some v:=by
 unfold BlkIs at h
 simp only [World.cell?, h]
 simpa using hv
theorem got_n (x : St) : ∃ yn, (got x).n = yn ∧ (yn = x.n ∨ x.kind = 16):=by
 unfold got
 split
 ·exact ⟨_, rfl, .inr ‹_›⟩
 ·exact ⟨_, rfl, .inl rfl⟩
theorem got_st (x : St) : (got x).kind = x.kind ∧ (got x).s = x.s ∧ (got x).null = x.null ∧ (got x).b = x.b ∧ (got x).texts = x.texts ∧ (got x).nums = x.nums:=by
 unfold got
 split <;> exact ⟨rfl, rfl, rfl, rfl, rfl, rfl⟩
theorem same_any {X Y : Nat → Prop} (w : World) (A A' : Option Addr) (c c' : Nat) (l : List St) (hl : l.length ≤ 20) (hA : StwAt X w A l) (hA' : StwAt Y w A' (l.map got)) : Calls Tryz.prog 21 #[.slice A l.length c, .slice A' l.length c'] w (fun e w' => e = .returned (.bool true) ∧ Kept [] w w'):=by
 obtain ⟨n, hn⟩ : ∃ n, l.length = n:=⟨_, rfl⟩
 rw [hn] at hl ⊢
 have HN:=lh hn
 have HA:=lh hA
 have HA':=lh hA'
 clear hn hA hA'
 go_enter Tryz.func21, Tryz.ntmps21
 go_wp2
 go_loopw [17] (fun iv wr => ∃ j : Nat, j ≤ n ∧ iv = .int .i64 j ∧ Kept [] w wr) (fun iv _ => n - (intOf iv).toNat)
 case atStart => exact ⟨0, Nat.zero_le _, rfl, Kept.refl _ _⟩
 case round =>
  obtain ⟨j, hj, rfl, hkr⟩:=hrel
  have HKR:=lh hkr
  clear hkr
  by_cases hlt : j < n
  ·obtain ⟨x, hx⟩ : ∃ x, l[j]? = some x:=⟨_, List.getElem?_eq_getElem (by rw [HN.out]; exact hlt)⟩
   obtain ⟨b1, o1, A1, A2, A3, c1, c2, c3, hAe, -, hcc1, hs1⟩:=HA.out.at hx
   obtain ⟨b2, o2, B1, B2, B3, d1, d2, d3, hBe, -, hcc2, hs2⟩:=HA'.out.at (i:=j) (x:=got x) (by simp [hx])
   cases hAe
   cases hBe
   obtain ⟨e1, e2, e3, e4, e5, e6⟩:=got_st x
   obtain ⟨yn, hyn, hyk⟩:=got_n x
   have hx1 : ∀ j' v, [.int .i64 x.kind, .int .i64 x.n, .string x.s, .bool x.null, .slice A1 x.b.length c1, .slice A2 x.texts.length c2, .slice A3 x.nums.length c3][j']? = some v → wr.cell? ⟨b1, o1 + j * 7 + j', none⟩ = some v:=fun j' v hv => HKR.out.cell (hcc1 j' v hv) (by simp)
   have hx2 : ∀ j' v, [.int .i64 x.kind, .int .i64 yn, .string x.s, .bool x.null, .slice B1 x.b.length d1, .slice B2 x.texts.length d2, .slice B3 x.nums.length d3][j']? = some v → wr.cell? ⟨b2, o2 + j * 7 + j', none⟩ = some v:=fun j' v hv => HKR.out.cell (hcc2 j' v (by simp only [stCells, e1, e2, e3, e4, e5, e6, hyn]; exact hv)) (by simp)
   have hsl1:=hs1.kept HKR.out (fun _ _ => by simp)
   have hsl2:=hs2.kept HKR.out (fun _ _ => by simp)
   have hb2:=hsl2.b
   have ht2:=hsl2.t
   have hn2:=hsl2.n
   rw [e4] at hb2
   rw [e5] at ht2
   rw [e6] at hn2
   have HX1:=lh hx1
   have HX2:=lh hx2
   have HS1:=lh hsl1
   have HB2:=lh hb2
   have HT2:=lh ht2
   have HN2:=lh hn2
   have HYK:=lh hyk
   clear hx1 hx2 hsl1 hsl2 hb2 ht2 hn2 hcc1 hcc2 hs1 hs2 hx e1 e2 e3 e4 e5 e6 hyn hyk
   go_wp2
   refine wp_region_inv' mixed (by kernel_rfl) (fun a0 => SInv 46 wr.heap.size wr a0 (fun k => [.slice (some ⟨b1, o1, none⟩) n c, .int .i64 j, .pointer (some ⟨b1, o1 + j * 7, none⟩), .agg #[.int .i64 x.kind, .int .i64 x.n, .string x.s, .bool x.null, .slice A1 x.b.length c1, .slice A2 x.texts.length c2, .slice A3 x.nums.length c3], .slice (some ⟨b2, o2, none⟩) n c', .int .i64 j, .pointer (some ⟨b2, o2 + j * 7, none⟩), .agg #[.int .i64 x.kind, .int .i64 yn, .string x.s, .bool x.null, .slice B1 x.b.length d1, .slice B2 x.texts.length d2, .slice B3 x.nums.length d3]].getD k undef) [.int .i64 x.kind, .int .i64 x.n, .string x.s, .bool x.null, .slice A1 x.b.length c1, .slice A2 x.texts.length c2, .slice A3 x.nums.length c3] [.int .i64 x.kind, .int .i64 yn, .string x.s, .bool x.null, .slice B1 x.b.length d1, .slice B2 x.texts.length d2, .slice B3 x.nums.length d3] [.int .i64 0, .int .i64 0, .string ByteArray.empty, .bool false, .slice none 0 0, .slice none 0 0, .slice none 0 0]) ?_ ?_ ?_
   ·exact ⟨⟨rfl, rfl, fun _ _ => rfl⟩, (Kept.refl _ _).drew, Nat.le_refl _, (by rw [rep_getD]; intro h; cases h), (by rw [rep_getD]; intro h; cases h), (by intro k _ h; rw [rep_getD] at h; cases h), 0, 0, (by rw [rep_getD]; intro h; cases h), (by rw [rep_getD]; intro h; cases h), (by rw [rep_getD]; intro h; cases h)⟩
   ·intro L a W i op hL hI ho hlf hdep
    have hi : i < 12:=(Array.getElem?_eq_some_iff.1 ho).1
    have b0 : a.tmps[0]? = some (.slice (some ⟨b1, o1, none⟩) n c):=hI.same.2.2 0 (by decide)
    have b1' : a.tmps[1]? = some (.slice (some ⟨b2, o2, none⟩) n c'):=hI.same.2.2 1 (by decide)
    have b5 : a.tmps[5]? = some (.int .i64 j):=hI.same.2.2 5 (by decide)
    have ho1:=ho
    have hlf8 : L.getD i false = false:=by rw [Array.getD_eq_getD_getElem?] at hlf ⊢; cases hq : L[i]? with
     | none => rfl
     | some u => rw [hq] at hlf; exact hlf
    rcases (by omega : i = 0 ∨ i = 1 ∨ i = 2 ∨ i = 3 ∨ i = 4 ∨ i = 5 ∨ i = 6 ∨ i = 7 ∨ i = 8 ∨ i = 9 ∨ i = 10 ∨ i = 11) with rfl | rfl | rfl | rfl | rfl | rfl | rfl | rfl | rfl | rfl | rfl | rfl
    all_goals (have ho2 : some _ = some op:=ho; cases ho2)
    all_goals (refine wpOp_of ho1 rfl ?_)
    ·refine ow_value (w':=W) (v:=.slice (some ⟨b1, o1, none⟩) n c) (by simp [go_sem, b0]) (hI.pureStep hL rfl 0 (by omega))
    ·refine ow_value (w':=W) (v:=.int .i64 j) (by simp [go_sem, b5]) (hI.pureStep hL rfl 1 (by omega))
    ·have d0 : a.tmps[20]? = some (.slice (some ⟨b1, o1, none⟩) n c):=hI.vals 0 (by omega) (hdep ⟨0, .data⟩ (by simp) rfl)
     have d1 : a.tmps[21]? = some (.int .i64 j):=hI.vals 1 (by omega) (hdep ⟨1, .data⟩ (by simp) rfl)
     refine ow_value (w':=W) (v:=.pointer (some ⟨b1, o1 + j * 7, none⟩)) (by simp [go_sem, d0, d1, hlt]) (hI.pureStep hL rfl 2 (by omega))
    ·have d2 : a.tmps[22]? = some (.pointer (some ⟨b1, o1 + j * 7, none⟩)):=hI.vals 2 (by omega) (hdep ⟨2, .data⟩ (by simp) rfl)
     exact ow_load_struct 46 _ rfl Tryz.underlying46 rfl rfl b1 (o1 + j * 7) (by simp [go_sem, d2]) [.int .i64 x.kind, .int .i64 x.n, .string x.s, .bool x.null, .slice A1 x.b.length c1, .slice A2 x.texts.length c2, .slice A3 x.nums.length c3] rfl (fun j' v hv => hI.kept.cell (HX1.out j' v hv) (by simp)) (hI.pureStep hL rfl 3 (by omega))
    ·refine ow_value (w':=W) (v:=.slice (some ⟨b2, o2, none⟩) n c') (by simp [go_sem, b1']) (hI.pureStep hL rfl 4 (by omega))
    ·refine ow_value (w':=W) (v:=.int .i64 j) (by simp [go_sem, b5]) (hI.pureStep hL rfl 5 (by omega))
    ·have d4 : a.tmps[24]? = some (.slice (some ⟨b2, o2, none⟩) n c'):=hI.vals 4 (by omega) (hdep ⟨4, .data⟩ (by simp) rfl)
     have d5 : a.tmps[25]? = some (.int .i64 j):=hI.vals 5 (by omega) (hdep ⟨5, .data⟩ (by simp) rfl)
     refine ow_value (w':=W) (v:=.pointer (some ⟨b2, o2 + j * 7, none⟩)) (by simp [go_sem, d4, d5, hlt]) (hI.pureStep hL rfl 6 (by omega))
    ·have d6 : a.tmps[26]? = some (.pointer (some ⟨b2, o2 + j * 7, none⟩)):=hI.vals 6 (by omega) (hdep ⟨6, .data⟩ (by simp) rfl)
     exact ow_load_struct 46 _ rfl Tryz.underlying46 rfl rfl b2 (o2 + j * 7) (by simp [go_sem, d6]) [.int .i64 x.kind, .int .i64 yn, .string x.s, .bool x.null, .slice B1 x.b.length d1, .slice B2 x.texts.length d2, .slice B3 x.nums.length d3] rfl (fun j' v hv => hI.kept.cell (HX2.out j' v hv) (by simp)) (hI.pureStep hL rfl 7 (by omega))
    ·refine ow_value (w':=W.alloc (.cells #[.int .i64 0, .int .i64 0, .string ByteArray.empty, .bool false, .slice none 0 0, .slice none 0 0, .slice none 0 0] 46)) (v:=.pointer (some ⟨W.heap.size, 0, none⟩)) (by simp [go_sem]; rfl) (hI.alloc8 hL rfl hlf8)
    ·refine ow_value (w':=W.alloc (.cells #[.int .i64 0, .int .i64 0, .string ByteArray.empty, .bool false, .slice none 0 0, .slice none 0 0, .slice none 0 0] 46)) (v:=.pointer (some ⟨W.heap.size, 0, none⟩)) (by simp [go_sem]; rfl) (hI.alloc9 hL rfl hlf8)
    ·have d3 : a.tmps[23]? = some (.agg #[.int .i64 x.kind, .int .i64 x.n, .string x.s, .bool x.null, .slice A1 x.b.length c1, .slice A2 x.texts.length c2, .slice A3 x.nums.length c3]):=hI.vals 3 (by omega) (hdep ⟨3, .data⟩ (by simp) rfl)
     obtain ⟨g, q6, hbz, hI2⟩:=hI.store10 hL (hdep ⟨8, .data⟩ (by simp) rfl) hlf8 (Nat.le_refl _)
     exact ow_store_struct 46 _ _ rfl (cs:=#[.int .i64 x.kind, .int .i64 x.n, .string x.s, .bool x.null, .slice A1 x.b.length c1, .slice A2 x.texts.length c2, .slice A3 x.nums.length c3]) rfl g (by simp [go_sem, q6]) (by simp [go_sem, d3]) 46 _ hbz rfl (by simp [Value.oneCell']) hI2
    ·have d7 : a.tmps[27]? = some (.agg #[.int .i64 x.kind, .int .i64 yn, .string x.s, .bool x.null, .slice B1 x.b.length d1, .slice B2 x.texts.length d2, .slice B3 x.nums.length d3]):=hI.vals 7 (by omega) (hdep ⟨7, .data⟩ (by simp) rfl)
     obtain ⟨g, q7, hbz, hI2⟩:=hI.store11 hL (hdep ⟨9, .data⟩ (by simp) rfl) hlf8 (Nat.le_refl _)
     exact ow_store_struct 46 _ _ rfl (cs:=#[.int .i64 x.kind, .int .i64 yn, .string x.s, .bool x.null, .slice B1 x.b.length d1, .slice B2 x.texts.length d2, .slice B3 x.nums.length d3]) rfl g (by simp [go_sem, q7]) (by simp [go_sem, d7]) 46 _ hbz rfl (by simp [Value.oneCell']) hI2
   ·intro L a W hL hI hall
    have all8 : ∀ k, k < 12 → L.getD k false = true:=fun k hk => by
     have h1:=hall k hk
     have hlt2 : k < L.size:=by rw [hL]; exact hk
     rw [Array.getD_eq_getD_getElem?, Array.getElem?_eq_getElem hlt2] at h1 ⊢
     exact h1
    obtain ⟨g, g', q1, q2, q3⟩:=hI.blk
    obtain ⟨t6, z6, k6⟩:=q1 (all8 8 (by omega))
    obtain ⟨t7, z7, k7⟩:=q2 (all8 9 (by omega))
    rw [all8 10 (by omega), if_pos rfl] at k6
    rw [all8 11 (by omega), if_pos rfl] at k7
    have v0 : a.tmps[20]? = some (.slice (some ⟨b1, o1, none⟩) n c):=hI.vals 0 (by omega) (all8 0 (by omega))
    have v1 : a.tmps[21]? = some (.int .i64 j):=hI.vals 1 (by omega) (all8 1 (by omega))
    have v2 : a.tmps[22]? = some (.pointer (some ⟨b1, o1 + j * 7, none⟩)):=hI.vals 2 (by omega) (all8 2 (by omega))
    have v3 : a.tmps[23]? = some (.agg #[.int .i64 x.kind, .int .i64 x.n, .string x.s, .bool x.null, .slice A1 x.b.length c1, .slice A2 x.texts.length c2, .slice A3 x.nums.length c3]):=hI.vals 3 (by omega) (all8 3 (by omega))
    have v4 : a.tmps[24]? = some (.slice (some ⟨b2, o2, none⟩) n c'):=hI.vals 4 (by omega) (all8 4 (by omega))
    have v5 : a.tmps[25]? = some (.int .i64 j):=hI.vals 5 (by omega) (all8 5 (by omega))
    have v6 : a.tmps[26]? = some (.pointer (some ⟨b2, o2 + j * 7, none⟩)):=hI.vals 6 (by omega) (all8 6 (by omega))
    have v7 : a.tmps[27]? = some (.agg #[.int .i64 x.kind, .int .i64 yn, .string x.s, .bool x.null, .slice B1 x.b.length d1, .slice B2 x.texts.length d2, .slice B3 x.nums.length d3]):=hI.vals 7 (by omega) (all8 7 (by omega))
    rw [act_of_sameBut hI.same]
    simp only [setAll, t6, t7, v0, v1, v2, v3, v4, v5, v6, v7, Option.getD_some, List.setIfInBounds_toArray, List.set_cons_succ, List.set_cons_zero]
    have HKW:=lh (HKR.out.trans0 hI.kept)
    have hs1:=HS1.out.kept hI.kept (fun _ _ => by simp)
    have hcv1:=conv_sl (c:=c1) hs1.b rfl
    have hcv2:=conv_sl (c:=d1) (HB2.out.kept0 hI.kept) rfl
    have HT1:=lh hs1.t
    have HN1:=lh hs1.n
    have HTT2:=lh (HT2.out.kept0 hI.kept)
    have HNN2:=lh (HN2.out.kept0 hI.kept)
    have HK6:=lh (fun k v (hv : [.int .i64 x.kind, .int .i64 x.n, .string x.s, .bool x.null, .slice A1 x.b.length c1, .slice A2 x.texts.length c2, .slice A3 x.nums.length c3][k]? = some v) => blk_cell k6 k v hv)
    have HK7:=lh (fun k v (hv : [.int .i64 x.kind, .int .i64 yn, .string x.s, .bool x.null, .slice B1 x.b.length d1, .slice B2 x.texts.length d2, .slice B3 x.nums.length d3][k]? = some v) => blk_cell k7 k v hv)
    have hc0:=HK6.out 0 _ rfl
    have hd0:=HK7.out 0 _ rfl
    have hc1:=HK6.out 1 _ rfl
    have hd1:=HK7.out 1 _ rfl
    have hc2:=HK6.out 2 _ rfl
    have hd2:=HK7.out 2 _ rfl
    have hc3:=HK6.out 3 _ rfl
    have hd3:=HK7.out 3 _ rfl
    have hc4:=HK6.out 4 _ rfl
    have hd4:=HK7.out 4 _ rfl
    have hc5:=HK6.out 5 _ rfl
    have hd5:=HK7.out 5 _ rfl
    have hc6:=HK6.out 6 _ rfl
    have hd6:=HK7.out 6 _ rfl
    clear t6 t7 z6 z7 k6 k7 q1 q2 q3 all8 hall hI hL hs1 v0 v1 v2 v3 v4 v5 v6 v7
    clear L a
    have hyc : (x.n = yn) ∨ (¬ x.n = yn ∧ (x.kind : Int) = 16):=by
     rcases HYK.out with h | h
     ·exact .inl h.symm
     ·by_cases h2 : x.n = yn
      ·exact .inl h2
      ·exact .inr ⟨h2, by omega⟩
    by_cases hnn : x.n = yn
    ·subst hnn
     go_wp2
     obtain ⟨W2, hW2⟩ : ∃ W2, W2 = W:=⟨_, rfl⟩
     rw [← hW2] at HKW HT1 HN1 HTT2 HNN2 HK6 HK7 ⊢
     clear hW2
     clear hcv1 hcv2 hc0 hc1 hc2 hc3 hc4 hc5 hc6 hd0 hd1 hd2 hd3 hd4 hd5 hd6
     clear W
     go_loopw [89] (fun iv wr => ∃ k : Nat, k ≤ x.texts.length ∧ iv = .int .i64 k ∧ Kept [] W2 wr) (fun iv _ => x.texts.length - (intOf iv).toNat)
     case atStart => exact ⟨0, Nat.zero_le _, rfl, Kept.refl _ _⟩
     case round =>
      obtain ⟨k, hk, rfl, hk2⟩:=hrel
      have hc5:=hk2.cell (HK6.out 5 _ rfl) (by simp)
      have hd5:=hk2.cell (HK7.out 5 _ rfl) (by simp)
      have hc6:=hk2.cell (HK6.out 6 _ rfl) (by simp)
      have HK2:=lh hk2
      clear hk2
      by_cases hlt2 : k < x.texts.length
      ·have h63:=HT1.out.2.1
       obtain ⟨b3, o3, hAe, hcc3⟩:=HT1.out.2.2 (by omega)
       obtain ⟨b4, o4, hBe, hcc4⟩:=HTT2.out.2.2 (by omega)
       obtain ⟨y, hy⟩ : ∃ y, x.texts[k]? = some y:=⟨_, List.getElem?_eq_getElem hlt2⟩
       cases hAe
       cases hBe
       have hx3 : wr.cell? ⟨b3, o3 + k, none⟩ = some (.string y):=HK2.out.cell (hcc3 k _ (strs_at hy)) (by simp)
       have hx4 : wr.cell? ⟨b4, o4 + k, none⟩ = some (.string y):=HK2.out.cell (hcc4 k _ (strs_at hy)) (by simp)
       clear hcc3 hcc4 hy hc6
       go_wp2
       go_big_quiet (fail)
       go_wp2
       go_roundw
       case rel => exact ⟨k + 1, by omega, by go_num, HK2.out.trans0 ((Kept.refl _ _).drewN _)⟩
       case measure => (simp [intOf]) <;> omega
      ·have ek : k = x.texts.length:=by omega
       have EK:=lh ek
       clear ek hc5 hd5
       go_wp2
       obtain ⟨W3, hW3⟩ : ∃ W3, W3 = wr:=⟨_, rfl⟩
       have HKW3:=lh (HKW.out.trans0 HK2.out)
       rw [← hW3] at HKW3 HK2 ⊢
       clear hW3 hc6
       clear wr
       go_loopw [107] (fun iv wr => ∃ k : Nat, k ≤ x.nums.length ∧ iv = .int .i64 k ∧ Kept [] W2 wr) (fun iv _ => x.nums.length - (intOf iv).toNat)
       case atStart => exact ⟨0, Nat.zero_le _, rfl, HK2.out⟩
       case round =>
        obtain ⟨k3, hk3, rfl, hk2⟩:=hrel
        have hc6:=hk2.cell (HK6.out 6 _ rfl) (by simp)
        have hd6:=hk2.cell (HK7.out 6 _ rfl) (by simp)
        have HK3:=lh hk2
        clear hk2
        by_cases hlt3 : k3 < x.nums.length
        ·have h63:=HN1.out.2.1
         obtain ⟨b3, o3, hAe, hcc3⟩:=HN1.out.2.2 (by omega)
         obtain ⟨b4, o4, hBe, hcc4⟩:=HNN2.out.2.2 (by omega)
         obtain ⟨y, hy⟩ : ∃ y, x.nums[k3]? = some y:=⟨_, List.getElem?_eq_getElem hlt3⟩
         cases hAe
         cases hBe
         have hx3 : wr.cell? ⟨b3, o3 + k3, none⟩ = some (.int .i64 y):=HK3.out.cell (hcc3 k3 _ (by simp [hy])) (by simp)
         have hx4 : wr.cell? ⟨b4, o4 + k3, none⟩ = some (.int .i64 y):=HK3.out.cell (hcc4 k3 _ (by simp [hy])) (by simp)
         clear hcc3 hcc4 hy
         go_wp2
         go_big_quiet (fail)
         go_wp2
         go_roundw
         case rel => exact ⟨k3 + 1, by omega, by go_num, HK3.out.trans0 ((Kept.refl _ _).drewN _)⟩
         case measure => (simp [intOf]) <;> omega
        ·clear hc6 hd6
         go_wp2
         go_roundw
         case rel => exact ⟨j + 1, by omega, by go_num, HKW.out.trans0 HK3.out⟩
         case measure => (simp [intOf]) <;> omega
    ·have hk16 : ((x.kind : Int) != 16) = false:=by
      rcases hyc with h | ⟨_, h⟩
      ·exact absurd h hnn
      ·rw [h]; rfl
     go_wp2
     clear hk16
     obtain ⟨W2, hW2⟩ : ∃ W2, W2 = W:=⟨_, rfl⟩
     rw [← hW2] at HKW HT1 HN1 HTT2 HNN2 HK6 HK7 ⊢
     clear hW2
     clear hcv1 hcv2 hc0 hc1 hc2 hc3 hc4 hc5 hc6 hd0 hd1 hd2 hd3 hd4 hd5 hd6
     clear W
     go_loopw [89] (fun iv wr => ∃ k : Nat, k ≤ x.texts.length ∧ iv = .int .i64 k ∧ Kept [] W2 wr) (fun iv _ => x.texts.length - (intOf iv).toNat)
     case atStart => exact ⟨0, Nat.zero_le _, rfl, Kept.refl _ _⟩
     case round =>
      obtain ⟨k, hk, rfl, hk2⟩:=hrel
      have hc5:=hk2.cell (HK6.out 5 _ rfl) (by simp)
      have hd5:=hk2.cell (HK7.out 5 _ rfl) (by simp)
      have hc6:=hk2.cell (HK6.out 6 _ rfl) (by simp)
      have HK2:=lh hk2
      clear hk2
      by_cases hlt2 : k < x.texts.length
      ·have h63:=HT1.out.2.1
       obtain ⟨b3, o3, hAe, hcc3⟩:=HT1.out.2.2 (by omega)
       obtain ⟨b4, o4, hBe, hcc4⟩:=HTT2.out.2.2 (by omega)
       obtain ⟨y, hy⟩ : ∃ y, x.texts[k]? = some y:=⟨_, List.getElem?_eq_getElem hlt2⟩
       cases hAe
       cases hBe
       have hx3 : wr.cell? ⟨b3, o3 + k, none⟩ = some (.string y):=HK2.out.cell (hcc3 k _ (strs_at hy)) (by simp)
       have hx4 : wr.cell? ⟨b4, o4 + k, none⟩ = some (.string y):=HK2.out.cell (hcc4 k _ (strs_at hy)) (by simp)
       clear hcc3 hcc4 hy hc6
       go_wp2
       go_big_quiet (fail)
       go_wp2
       go_roundw
       case rel => exact ⟨k + 1, by omega, by go_num, HK2.out.trans0 ((Kept.refl _ _).drewN _)⟩
       case measure => (simp [intOf]) <;> omega
      ·have ek : k = x.texts.length:=by omega
       have EK:=lh ek
       clear ek hc5 hd5
       go_wp2
       obtain ⟨W3, hW3⟩ : ∃ W3, W3 = wr:=⟨_, rfl⟩
       have HKW3:=lh (HKW.out.trans0 HK2.out)
       rw [← hW3] at HKW3 HK2 ⊢
       clear hW3 hc6
       clear wr
       go_loopw [107] (fun iv wr => ∃ k : Nat, k ≤ x.nums.length ∧ iv = .int .i64 k ∧ Kept [] W2 wr) (fun iv _ => x.nums.length - (intOf iv).toNat)
       case atStart => exact ⟨0, Nat.zero_le _, rfl, HK2.out⟩
       case round =>
        obtain ⟨k3, hk3, rfl, hk2⟩:=hrel
        have hc6:=hk2.cell (HK6.out 6 _ rfl) (by simp)
        have hd6:=hk2.cell (HK7.out 6 _ rfl) (by simp)
        have HK3:=lh hk2
        clear hk2
        by_cases hlt3 : k3 < x.nums.length
        ·have h63:=HN1.out.2.1
         obtain ⟨b3, o3, hAe, hcc3⟩:=HN1.out.2.2 (by omega)
         obtain ⟨b4, o4, hBe, hcc4⟩:=HNN2.out.2.2 (by omega)
         obtain ⟨y, hy⟩ : ∃ y, x.nums[k3]? = some y:=⟨_, List.getElem?_eq_getElem hlt3⟩
         cases hAe
         cases hBe
         have hx3 : wr.cell? ⟨b3, o3 + k3, none⟩ = some (.int .i64 y):=HK3.out.cell (hcc3 k3 _ (by simp [hy])) (by simp)
         have hx4 : wr.cell? ⟨b4, o4 + k3, none⟩ = some (.int .i64 y):=HK3.out.cell (hcc4 k3 _ (by simp [hy])) (by simp)
         clear hcc3 hcc4 hy
         go_wp2
         go_big_quiet (fail)
         go_wp2
         go_roundw
         case rel => exact ⟨k3 + 1, by omega, by go_num, HK3.out.trans0 ((Kept.refl _ _).drewN _)⟩
         case measure => (simp [intOf]) <;> omega
        ·clear hc6 hd6
         go_wp2
         go_roundw
         case rel => exact ⟨j + 1, by omega, by go_num, HKW.out.trans0 HK3.out⟩
         case measure => (simp [intOf]) <;> omega
  ·go_wp2
   go_ret
   exact ⟨rfl, HKR.out⟩
end Go.Proofs.YtmpjikihnmagoaaGreatDoor
