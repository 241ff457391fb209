/-
  The specification's form of lists, of any datum (44), of data (18). Conditions: a right datum.
-/
import Derived.Test.YtmpjikihnmagoaaGreatDoorZT41
set_option maxRecDepth 100000
set_option maxHeartbeats 3200000
namespace Go.Proofs.YtmpjikihnmagoaaGreatDoor
open Go.RowKit
theorem sb_13 (fl : Bool) (x : St) (hx : RightB x) (h64 : ∀ y ∈ x.nums, Num64 y) (hkind : x.kind = 13) {X : Nat → Prop} (A1 A2 A3 : Option Addr) (c1 c2 c3 : Nat) (w : World) (hw : StW X w x A1 A2 A3) : Calls Tryz.prog 44 #[.agg (stCells x A1 A2 A3 c1 c2 c3).toArray, .bool fl] w (StepR (stepB fl x) (stepB fl x).length w):=by
 obtain ⟨kind, n, s, null, b, texts, nums⟩:=x
 simp only at hkind
 subst hkind
 have hnull : null = false:=by
  cases null with
  | false => rfl
  | true => exact absurd (hx.null rfl).1 (by simp)
 subst hnull
 have hb3 : b.length ≤ 300:=hx.b300
 have hs2 : s.size ≤ 200:=hx.s200
 have hi : Num64 n:=hx.i64
 have HB:=lh hw.b
 have HT:=lh hw.t
 have HN:=lh hw.n
 have ht10 : texts.length ≤ 10:=hx.t10
 have ht60 : ∀ t ∈ texts, t.size ≤ 60:=hx.t60
 obtain ⟨nt, hnt⟩ : ∃ nt, texts.length = nt:=⟨_, rfl⟩
 rw [hnt] at HT ht10
 have HC : Hid (∀ W : World, Calls Tryz.prog 74 #[.int .i64 nt, .int .i64 4, .bool fl] W (BytesR (lenB fl nt 4) (lenB fl nt 4).length W)):=lh (fun W => length_any fl W nt 4 (by omega) (by omega) (by omega))
 have HCT : Hid (∀ (W : World) (y : ByteArray), y.size ≤ 60 → Calls Tryz.prog 74 #[.int .i64 y.size, .int .i64 2, .bool fl] W (BytesR (lenB fl y.size 2) (lenB fl y.size 2).length W)):=lh (fun W y hy => length_any fl W y.size 2 (by omega) (by omega) (by omega))
 have hlb:=lenB_le fl (nt : Int) 4
 have HTT:=lh (fun j => flat_most (textB fl) 72 (texts.take j) fun s hs => by have h1:=textB_le fl s; have h2:=ht60 s (List.mem_of_mem_take hs); omega)
 obtain ⟨lb, hlbe⟩ : ∃ lb, lenB fl (nt : Int) 4 = lb:=⟨_, rfl⟩
 have hbe : stepB fl ⟨13, n, s, false, b, texts, nums⟩ = lb ++ texts.flatMap (textB fl):=by
  rw [← hlbe, ← hnt]
  rfl
 rw [hbe]
 rw [hlbe] at HC hlb
 have HNT:=lh hnt
 have H60:=lh ht60
 clear hw hx h64 hi hlbe hbe ht60
 show Calls Tryz.prog 44 #[.agg #[.int .i64 13, .int .i64 n, .string s, .bool false, .slice A1 b.length c1, .slice A2 texts.length c2, .slice A3 nums.length c3], .bool fl] w _
 rw [hnt]
 clear hnt
 go_enter Tryz.func44, Tryz.ntmps44
 go_wp2_with ((with_reducible refine (HC.out _).mono ?_); rintro e w1 ⟨v1, rfl, ho1, hk1⟩; have HO1:=lh (own_kept_ge ho1 (by rw [alloc_size]; exact Nat.le_succ _)); have HK1:=lh (((Kept.refl [] w).alloc (.cells #[.int .i64 13, .int .i64 n, .string s, .bool false, .slice A1 b.length c1, .slice A2 nt c2, .slice A3 nums.length c3] 46)).trans0 hk1); have hc5 : w1.cell? ⟨w.heap.size, 5, none⟩ = some (.slice A2 nt c2):=hk1.cell (by have h1:=heap_alloc_new w (.cells #[.int .i64 13, .int .i64 n, .string s, .bool false, .slice A1 b.length c1, .slice A2 nt c2, .slice A3 nums.length c3] 46); simp only [World.cell?, h1]; rfl) (by simp); clear ho1 hk1)
 go_loopw [5, 114] (fun tv iv wr => ∃ j : Nat, j ≤ nt ∧ iv = .int .i64 j ∧ wr.ownsRow w.heap.size 5 1 tv (lb ++ (texts.take j).flatMap (textB fl)).length (Lib.byteCells (lb ++ (texts.take j).flatMap (textB fl))) ∧ Kept [] w wr) (fun _ iv _ => nt - (intOf iv).toNat)
 case atStart => exact ⟨0, Nat.zero_le _, rfl, by simpa using HO1.out, HK1.out⟩
 case round =>
  obtain ⟨j, hj, rfl, hor, hkr⟩:=hrel
  have hm : (lb ++ (texts.take j).flatMap (textB fl)).length ≤ 2000:=by
   have h1:=HTT.out j
   rw [List.length_append]
   have h2 : (texts.take j).length ≤ 10:=by rw [List.length_take]; have:=HNT.out; omega
   have h3 : (texts.take j).length * 72 ≤ 720:=by omega
   omega
  have hsz:=hkr.size
  have HOR:=lh hor
  have HKR:=lh hkr
  clear hor hkr
  by_cases hlt : j < nt
  ·obtain ⟨b3, off3, hAe, hcc⟩:=HT.out.2.2 (by omega)
   obtain ⟨y, hy⟩ : ∃ y, texts[j]? = some y:=⟨_, List.getElem?_eq_getElem (by rw [HNT.out]; exact hlt)⟩
   subst hAe
   have hcell : wr.cell? ⟨b3, off3 + j, none⟩ = some (.string y):=HKR.out.cell (hcc j _ (strs_at hy)) (by simp)
   have hy60:=H60.out y (List.mem_of_getElem? hy)
   have HTK:=lh (take_one hy)
   have HCY:=lh (HCT.out wr y hy60)
   have hly:=lenB_le fl (y.size : Int) 2
   have htx : textB fl y = lenB fl (y.size : Int) 2 ++ y.data.toList:=rfl
   obtain ⟨ly, hlye⟩ : ∃ ly, lenB fl (y.size : Int) 2 = ly:=⟨_, rfl⟩
   rw [hlye] at HCY hly htx
   have HTX:=lh htx
   obtain ⟨F0, hF⟩ : ∃ F0, lb ++ (texts.take j).flatMap (textB fl) = F0:=⟨_, rfl⟩
   rw [hF] at HOR hm
   have HF:=lh hF
   obtain ⟨m0, hm0⟩ : ∃ m0, F0.length = m0:=⟨_, rfl⟩
   obtain ⟨ml, hml⟩ : ∃ ml, ly.length = ml:=⟨_, rfl⟩
   rw [hm0] at HOR hm
   rw [hml] at HCY hly
   have HM0:=lh hm0
   have HML:=lh hml
   clear hcc hy hlye htx hF hm0 hml
   go_wp2_with (first
    | ((with_reducible refine HCY.out.mono ?_); rintro e w5 ⟨v5, rfl, ho5, hk5⟩; obtain ⟨A9, c9, rfl, hsl9, _⟩:=own_sl ho5; have HSL9:=lh hsl9; have HK5:=lh hk5; have hsz5:=hk5.size; clear ho5 hsl9 hk5)
    | (refine wl_append_str rfl _ _ rfl w.heap.size v6 (m0 + ml) _ rfl HO6.out y rfl (by omega) (by omega) ?_; intro v7 w7 hown7 hk7; have HO7:=lh hown7; have HK7:=lh (HK6.out.trans hk7 (fun x hx => .inr (own_ge HO6.out x (by simpa using hx)))); clear hown7 hk7)
    | (at_builtin; refine wl_append rfl _ _ 34 rfl w.heap.size 5 Tryz.underlying34 info5b rfl (by decide) u5 m0 _ rfl (own_kept0 HOR.out HK5.out) A9 ml c9 (Lib.byteCells ly) rfl HSL9.out (bytes_one ly) (by omega) (by omega) (by omega) ?_; intro v6 w6 hown6 hk6 _; have HO6:=lh hown6; have HK6:=lh ((HKR.out.trans0 HK5.out).trans hk6 (fun x hx => .inr (own_ge HOR.out x (by simpa using hx)))); have hsz6:=hk6.size; clear hown6 hk6))
   go_roundw
   case rel =>
    refine ⟨j + 1, by omega, by go_num, ?_, HK7.out⟩
    have e1 : lb ++ (texts.take (j + 1)).flatMap (textB fl) = F0 ++ ly ++ y.data.toList:=by
     rw [HTK.out, List.flatMap_append, ← List.append_assoc, HF.out, List.append_assoc]
     simp [HTX.out]
    have ho:=HO7.out
    rw [← Lib.byteCells_append, ← Lib.byteCells_append] at ho
    rw [e1, List.length_append, List.length_append, HM0.out, HML.out]
    exact ho
   case measure => (simp [intOf]) <;> omega
  ·have e : texts.take j = texts:=List.take_of_length_le (by rw [HNT.out]; omega)
   rw [e] at HOR
   clear e
   go_wp2
   go_ret
   exact stepR_of HOR.out HKR.out
theorem sb_14 (fl : Bool) (x : St) (hx : RightB x) (h64 : ∀ y ∈ x.nums, Num64 y) (hkind : x.kind = 14) {X : Nat → Prop} (A1 A2 A3 : Option Addr) (c1 c2 c3 : Nat) (w : World) (hw : StW X w x A1 A2 A3) : Calls Tryz.prog 44 #[.agg (stCells x A1 A2 A3 c1 c2 c3).toArray, .bool fl] w (StepR (stepB fl x) (stepB fl x).length w):=by
 obtain ⟨kind, n, s, null, b, texts, nums⟩:=x
 simp only at hkind
 subst hkind
 have hnull : null = false:=by
  cases null with
  | false => rfl
  | true => exact absurd (hx.null rfl).1 (by simp)
 subst hnull
 have hb3 : b.length ≤ 300:=hx.b300
 have hs2 : s.size ≤ 200:=hx.s200
 have hi : Num64 n:=hx.i64
 have HB:=lh hw.b
 have HT:=lh hw.t
 have HN:=lh hw.n
 have hn10 : nums.length ≤ 10:=hx.n10
 have hn64 : ∀ y ∈ nums, Num64 y:=h64
 obtain ⟨nt, hnt⟩ : ∃ nt, nums.length = nt:=⟨_, rfl⟩
 rw [hnt] at HN hn10
 have HC : Hid (∀ W : World, Calls Tryz.prog 74 #[.int .i64 nt, .int .i64 4, .bool fl] W (BytesR (lenB fl nt 4) (lenB fl nt 4).length W)):=lh (fun W => length_any fl W nt 4 (by omega) (by omega) (by omega))
 have HCT : Hid (∀ (W : World) (y : Int), Num64 y → Calls Tryz.prog 37 #[.int .i64 y, .int .i64 4] W (BytesR (big 4 y) 4 W)):=lh (fun W y hy => big_any W y 4 (by omega) hy)
 have hlb:=lenB_le fl (nt : Int) 4
 have HTT:=lh (fun j => flat_big_le 4 (nums.take j))
 obtain ⟨lb, hlbe⟩ : ∃ lb, lenB fl (nt : Int) 4 = lb:=⟨_, rfl⟩
 have hbe : stepB fl ⟨14, n, s, false, b, texts, nums⟩ = lb ++ nums.flatMap (big 4):=by
  rw [← hlbe, ← hnt]
  rfl
 rw [hbe]
 rw [hlbe] at HC hlb
 have HNT:=lh hnt
 have H64:=lh hn64
 clear hw hx h64 hi hlbe hbe hn64
 show Calls Tryz.prog 44 #[.agg #[.int .i64 14, .int .i64 n, .string s, .bool false, .slice A1 b.length c1, .slice A2 texts.length c2, .slice A3 nums.length c3], .bool fl] w _
 rw [hnt]
 clear hnt
 go_enter Tryz.func44, Tryz.ntmps44
 go_wp2_with ((with_reducible refine (HC.out _).mono ?_); rintro e w1 ⟨v1, rfl, ho1, hk1⟩; have HO1:=lh (own_kept_ge ho1 (by rw [alloc_size]; exact Nat.le_succ _)); have HK1:=lh (((Kept.refl [] w).alloc (.cells #[.int .i64 14, .int .i64 n, .string s, .bool false, .slice A1 b.length c1, .slice A2 texts.length c2, .slice A3 nt c3] 46)).trans0 hk1); have hcK : ∀ j v, [Value.int .i64 14, .int .i64 n, .string s, .bool false, .slice A1 b.length c1, .slice A2 texts.length c2, .slice A3 nt c3][j]? = some v → w1.cell? ⟨w.heap.size, j, none⟩ = some v:=(fun j v hv => hk1.cell (by have h1:=new_cells w [Value.int .i64 14, .int .i64 n, .string s, .bool false, .slice A1 b.length c1, .slice A2 texts.length c2, .slice A3 nt c3] 46 j v hv; rw [Nat.zero_add] at h1; exact h1) (by simp)); have hc6:=hcK 6 _ rfl; have hc0:=hcK 0 _ rfl; clear ho1 hk1 hcK)
 go_loopw [8, 142] (fun tv iv wr => ∃ j : Nat, j ≤ nt ∧ iv = .int .i64 j ∧ wr.ownsRow w.heap.size 5 1 tv (lb ++ (nums.take j).flatMap (big 4)).length (Lib.byteCells (lb ++ (nums.take j).flatMap (big 4))) ∧ Kept [] w wr) (fun _ iv _ => nt - (intOf iv).toNat)
 case atStart => exact ⟨0, Nat.zero_le _, rfl, by simpa using HO1.out, HK1.out⟩
 case round =>
  obtain ⟨j, hj, rfl, hor, hkr⟩:=hrel
  have hm : (lb ++ (nums.take j).flatMap (big 4)).length ≤ 2000:=by
   have h1:=HTT.out j
   rw [List.length_append]
   have h2 : (nums.take j).length ≤ 10:=by rw [List.length_take]; have:=HNT.out; omega
   have h3 : (nums.take j).length * 4 ≤ 80:=by omega
   omega
  have hsz:=hkr.size
  have HOR:=lh hor
  have HKR:=lh hkr
  clear hor hkr
  by_cases hlt : j < nt
  ·obtain ⟨b3, off3, hAe, hcc⟩:=HN.out.2.2 (by omega)
   obtain ⟨y, hy⟩ : ∃ y, nums[j]? = some y:=⟨_, List.getElem?_eq_getElem (by rw [HNT.out]; exact hlt)⟩
   subst hAe
   have hcell : wr.cell? ⟨b3, off3 + j, none⟩ = some (.int .i64 y):=HKR.out.cell (hcc j _ (by simp [hy])) (by simp)
   have HTK:=lh (take_one hy)
   have HCY:=lh (HCT.out wr y (H64.out y (List.mem_of_getElem? hy)))
   obtain ⟨F0, hF⟩ : ∃ F0, lb ++ (nums.take j).flatMap (big 4) = F0:=⟨_, rfl⟩
   rw [hF] at HOR hm
   have HF:=lh hF
   obtain ⟨m0, hm0⟩ : ∃ m0, F0.length = m0:=⟨_, rfl⟩
   rw [hm0] at HOR hm
   have HM0:=lh hm0
   clear hcc hy hF hm0
   go_wp2_with (first
    | ((with_reducible refine HCY.out.mono ?_); rintro e w5 ⟨v5, rfl, ho5, hk5⟩; obtain ⟨A9, c9, rfl, hsl9, _⟩:=own_sl ho5; have HSL9:=lh hsl9; have HK5:=lh hk5; have hsz5:=hk5.size; clear ho5 hsl9 hk5)
    | (at_builtin; refine wl_append rfl _ _ 34 rfl w.heap.size 5 Tryz.underlying34 info5b rfl (by decide) u8 m0 _ rfl (own_kept0 HOR.out HK5.out) A9 4 c9 (Lib.byteCells (big 4 y)) rfl HSL9.out (bytes_one _) (by omega) (by omega) (by omega) ?_; intro v6 w6 hown6 hk6 _; have HO6:=lh hown6; have HK6:=lh ((HKR.out.trans0 HK5.out).trans hk6 (fun x hx => .inr (own_ge HOR.out x (by simpa using hx)))); clear hown6 hk6))
   go_roundw
   case rel =>
    refine ⟨j + 1, by omega, by go_num, ?_, HK6.out⟩
    have e1 : lb ++ (nums.take (j + 1)).flatMap (big 4) = F0 ++ big 4 y:=by
     rw [HTK.out, List.flatMap_append, ← List.append_assoc, HF.out]
     simp
    have ho:=HO6.out
    rw [← Lib.byteCells_append] at ho
    rw [e1, List.length_append, HM0.out, big_len]
    exact ho
   case measure => (simp [intOf]) <;> omega
  ·have e : nums.take j = nums:=List.take_of_length_le (by rw [HNT.out]; omega)
   rw [e] at HOR
   clear e
   go_wp2
   go_ret
   exact stepR_of HOR.out HKR.out
theorem sb_15 (fl : Bool) (x : St) (hx : RightB x) (h64 : ∀ y ∈ x.nums, Num64 y) (hkind : x.kind = 15) {X : Nat → Prop} (A1 A2 A3 : Option Addr) (c1 c2 c3 : Nat) (w : World) (hw : StW X w x A1 A2 A3) : Calls Tryz.prog 44 #[.agg (stCells x A1 A2 A3 c1 c2 c3).toArray, .bool fl] w (StepR (stepB fl x) (stepB fl x).length w):=by
 obtain ⟨kind, n, s, null, b, texts, nums⟩:=x
 simp only at hkind
 subst hkind
 have hnull : null = false:=by
  cases null with
  | false => rfl
  | true => exact absurd (hx.null rfl).1 (by simp)
 subst hnull
 have hb3 : b.length ≤ 300:=hx.b300
 have hs2 : s.size ≤ 200:=hx.s200
 have hi : Num64 n:=hx.i64
 have HB:=lh hw.b
 have HT:=lh hw.t
 have HN:=lh hw.n
 have hn10 : nums.length ≤ 10:=hx.n10
 have hn64 : ∀ y ∈ nums, Num64 y:=h64
 obtain ⟨nt, hnt⟩ : ∃ nt, nums.length = nt:=⟨_, rfl⟩
 rw [hnt] at HN hn10
 have HC : Hid (∀ W : World, Calls Tryz.prog 74 #[.int .i64 nt, .int .i64 4, .bool fl] W (BytesR (lenB fl nt 4) (lenB fl nt 4).length W)):=lh (fun W => length_any fl W nt 4 (by omega) (by omega) (by omega))
 have HCT : Hid (∀ (W : World) (y : Int), Num64 y → Calls Tryz.prog 37 #[.int .i64 y, .int .i64 8] W (BytesR (big 8 y) 8 W)):=lh (fun W y hy => big_any W y 8 (by omega) hy)
 have hlb:=lenB_le fl (nt : Int) 4
 have HTT:=lh (fun j => flat_big_le 8 (nums.take j))
 obtain ⟨lb, hlbe⟩ : ∃ lb, lenB fl (nt : Int) 4 = lb:=⟨_, rfl⟩
 have hbe : stepB fl ⟨15, n, s, false, b, texts, nums⟩ = lb ++ nums.flatMap (big 8):=by
  rw [← hlbe, ← hnt]
  rfl
 rw [hbe]
 rw [hlbe] at HC hlb
 have HNT:=lh hnt
 have H64:=lh hn64
 clear hw hx h64 hi hlbe hbe hn64
 show Calls Tryz.prog 44 #[.agg #[.int .i64 15, .int .i64 n, .string s, .bool false, .slice A1 b.length c1, .slice A2 texts.length c2, .slice A3 nums.length c3], .bool fl] w _
 rw [hnt]
 clear hnt
 go_enter Tryz.func44, Tryz.ntmps44
 go_wp2_with ((with_reducible refine (HC.out _).mono ?_); rintro e w1 ⟨v1, rfl, ho1, hk1⟩; have HO1:=lh (own_kept_ge ho1 (by rw [alloc_size]; exact Nat.le_succ _)); have HK1:=lh (((Kept.refl [] w).alloc (.cells #[.int .i64 15, .int .i64 n, .string s, .bool false, .slice A1 b.length c1, .slice A2 texts.length c2, .slice A3 nt c3] 46)).trans0 hk1); have hcK : ∀ j v, [Value.int .i64 15, .int .i64 n, .string s, .bool false, .slice A1 b.length c1, .slice A2 texts.length c2, .slice A3 nt c3][j]? = some v → w1.cell? ⟨w.heap.size, j, none⟩ = some v:=(fun j v hv => hk1.cell (by have h1:=new_cells w [Value.int .i64 15, .int .i64 n, .string s, .bool false, .slice A1 b.length c1, .slice A2 texts.length c2, .slice A3 nt c3] 46 j v hv; rw [Nat.zero_add] at h1; exact h1) (by simp)); have hc6:=hcK 6 _ rfl; have hc0:=hcK 0 _ rfl; clear ho1 hk1 hcK)
 go_loopw [8, 142] (fun tv iv wr => ∃ j : Nat, j ≤ nt ∧ iv = .int .i64 j ∧ wr.ownsRow w.heap.size 5 1 tv (lb ++ (nums.take j).flatMap (big 8)).length (Lib.byteCells (lb ++ (nums.take j).flatMap (big 8))) ∧ Kept [] w wr) (fun _ iv _ => nt - (intOf iv).toNat)
 case atStart => exact ⟨0, Nat.zero_le _, rfl, by simpa using HO1.out, HK1.out⟩
 case round =>
  obtain ⟨j, hj, rfl, hor, hkr⟩:=hrel
  have hm : (lb ++ (nums.take j).flatMap (big 8)).length ≤ 2000:=by
   have h1:=HTT.out j
   rw [List.length_append]
   have h2 : (nums.take j).length ≤ 10:=by rw [List.length_take]; have:=HNT.out; omega
   have h3 : (nums.take j).length * 8 ≤ 80:=by omega
   omega
  have hsz:=hkr.size
  have HOR:=lh hor
  have HKR:=lh hkr
  clear hor hkr
  by_cases hlt : j < nt
  ·obtain ⟨b3, off3, hAe, hcc⟩:=HN.out.2.2 (by omega)
   obtain ⟨y, hy⟩ : ∃ y, nums[j]? = some y:=⟨_, List.getElem?_eq_getElem (by rw [HNT.out]; exact hlt)⟩
   subst hAe
   have hcell : wr.cell? ⟨b3, off3 + j, none⟩ = some (.int .i64 y):=HKR.out.cell (hcc j _ (by simp [hy])) (by simp)
   have HTK:=lh (take_one hy)
   have HCY:=lh (HCT.out wr y (H64.out y (List.mem_of_getElem? hy)))
   obtain ⟨F0, hF⟩ : ∃ F0, lb ++ (nums.take j).flatMap (big 8) = F0:=⟨_, rfl⟩
   rw [hF] at HOR hm
   have HF:=lh hF
   obtain ⟨m0, hm0⟩ : ∃ m0, F0.length = m0:=⟨_, rfl⟩
   rw [hm0] at HOR hm
   have HM0:=lh hm0
   clear hcc hy hF hm0
   go_wp2_with (first
    | ((with_reducible refine HCY.out.mono ?_); rintro e w5 ⟨v5, rfl, ho5, hk5⟩; obtain ⟨A9, c9, rfl, hsl9, _⟩:=own_sl ho5; have HSL9:=lh hsl9; have HK5:=lh hk5; have hsz5:=hk5.size; clear ho5 hsl9 hk5)
    | (at_builtin; refine wl_append rfl _ _ 34 rfl w.heap.size 5 Tryz.underlying34 info5b rfl (by decide) u8 m0 _ rfl (own_kept0 HOR.out HK5.out) A9 8 c9 (Lib.byteCells (big 8 y)) rfl HSL9.out (bytes_one _) (by omega) (by omega) (by omega) ?_; intro v6 w6 hown6 hk6 _; have HO6:=lh hown6; have HK6:=lh ((HKR.out.trans0 HK5.out).trans hk6 (fun x hx => .inr (own_ge HOR.out x (by simpa using hx)))); clear hown6 hk6))
   go_roundw
   case rel =>
    refine ⟨j + 1, by omega, by go_num, ?_, HK6.out⟩
    have e1 : lb ++ (nums.take (j + 1)).flatMap (big 8) = F0 ++ big 8 y:=by
     rw [HTK.out, List.flatMap_append, ← List.append_assoc, HF.out]
     simp
    have ho:=HO6.out
    rw [← Lib.byteCells_append] at ho
    rw [e1, List.length_append, HM0.out, big_len]
    exact ho
   case measure => (simp [intOf]) <;> omega
  ·have e : nums.take j = nums:=List.take_of_length_le (by rw [HNT.out]; omega)
   rw [e] at HOR
   clear e
   go_wp2
   go_ret
   exact stepR_of HOR.out HKR.out
theorem stepBytes_any (fl : Bool) (x : St) (hx : RightB x) (h64 : ∀ y ∈ x.nums, Num64 y) {X : Nat → Prop} (A1 A2 A3 : Option Addr) (c1 c2 c3 : Nat) (w : World) (hw : StW X w x A1 A2 A3) : Calls Tryz.prog 44 #[.agg (stCells x A1 A2 A3 c1 c2 c3).toArray, .bool fl] w (StepR (stepB fl x) (stepB fl x).length w):=by
 have hk:=hx.kind
 have h17 : x.kind = 0 ∨ x.kind = 1 ∨ x.kind = 2 ∨ x.kind = 3 ∨ x.kind = 4 ∨ x.kind = 5 ∨ x.kind = 6 ∨ x.kind = 7 ∨ x.kind = 8 ∨ x.kind = 9 ∨ x.kind = 10 ∨ x.kind = 11 ∨ x.kind = 12 ∨ x.kind = 13 ∨ x.kind = 14 ∨ x.kind = 15 ∨ x.kind = 16:=by omega
 rcases h17 with e | e | e | e | e | e | e | e | e | e | e | e | e | e | e | e | e
 ·exact sb_0 fl x hx h64 e A1 A2 A3 c1 c2 c3 w hw
 ·exact sb_1 fl x hx h64 e A1 A2 A3 c1 c2 c3 w hw
 ·exact sb_2 fl x hx h64 e A1 A2 A3 c1 c2 c3 w hw
 ·exact sb_3 fl x hx h64 e A1 A2 A3 c1 c2 c3 w hw
 ·exact sb_4 fl x hx h64 e A1 A2 A3 c1 c2 c3 w hw
 ·exact sb_5 fl x hx h64 e A1 A2 A3 c1 c2 c3 w hw
 ·exact sb_6 fl x hx h64 e A1 A2 A3 c1 c2 c3 w hw
 ·rcases hx.bool e with e2 | e2
  ·exact sb_7_0 fl x hx h64 e e2 A1 A2 A3 c1 c2 c3 w hw
  ·exact sb_7_1 fl x hx h64 e e2 A1 A2 A3 c1 c2 c3 w hw
 ·exact sb_8 fl x hx h64 e A1 A2 A3 c1 c2 c3 w hw
 ·exact sb_9 fl x hx h64 e A1 A2 A3 c1 c2 c3 w hw
 ·cases e2 : x.null
  ·exact sb_10 fl x hx h64 e e2 A1 A2 A3 c1 c2 c3 w hw
  ·exact sb_10n fl x hx h64 e e2 A1 A2 A3 c1 c2 c3 w hw
 ·cases e2 : x.null
  ·exact sb_11 fl x hx h64 e e2 A1 A2 A3 c1 c2 c3 w hw
  ·exact sb_11n fl x hx h64 e e2 A1 A2 A3 c1 c2 c3 w hw
 ·cases e2 : x.null
  ·exact sb_12 fl x hx h64 e e2 A1 A2 A3 c1 c2 c3 w hw
  ·exact sb_12n fl x hx h64 e e2 A1 A2 A3 c1 c2 c3 w hw
 ·exact sb_13 fl x hx h64 e A1 A2 A3 c1 c2 c3 w hw
 ·exact sb_14 fl x hx h64 e A1 A2 A3 c1 c2 c3 w hw
 ·exact sb_15 fl x hx h64 e A1 A2 A3 c1 c2 c3 w hw
 ·exact sb_16 fl x hx h64 e A1 A2 A3 c1 c2 c3 w hw
theorem stepsBytes_any (fl : Bool) (l : List St) (hl : l.length ≤ 20) (hr : ∀ x ∈ l, RightB x) (h64 : ∀ x ∈ l, ∀ y ∈ x.nums, Num64 y) {X : Nat → Prop} (A : Option Addr) (c : Nat) (w : World) (hA : StwAt X w A l) : Calls Tryz.prog 18 #[.slice A l.length c, .bool fl] w (BytesR (stepsB fl l) (stepsB fl l).length w):=by
 obtain ⟨n, hn⟩ : ∃ n, l.length = n:=⟨_, rfl⟩
 have hcap:=stepsB_le fl l hr
 have hcap2 : (stepsB fl l).length ≤ 20000:=by omega
 rw [hn] at hl ⊢
 have HN:=lh hn
 have HA:=lh hA
 have HR:=lh hr
 have H64:=lh h64
 clear hn hA hr h64 hcap
 go_enter Tryz.func18, Tryz.ntmps18
 go_wp2
 go_loopw [5, 10] (fun tv iv wr => ∃ j : Nat, j ≤ n ∧ iv = .int .i64 j ∧ wr.ownsRow w.heap.size 5 1 tv (stepsB fl (l.take j)).length (Lib.byteCells (stepsB fl (l.take j))) ∧ Kept [] w wr) (fun _ iv _ => n - (intOf iv).toNat)
 case atStart => exact ⟨0, Nat.zero_le _, rfl, ⟨rfl, .inl ⟨rfl, rfl⟩⟩, Kept.refl _ _⟩
 case round =>
  obtain ⟨j, hj, rfl, hor, hkr⟩:=hrel
  have hsz:=hkr.size
  have HOR:=lh hor
  have HKR:=lh hkr
  clear hor hkr
  by_cases hlt : j < n
  ·obtain ⟨x, hx⟩ : ∃ x, l[j]? = some x:=⟨_, List.getElem?_eq_getElem (by rw [HN.out]; exact hlt)⟩
   obtain ⟨b, off, A1, A2, A3, c1, c2, c3, hAe, -, hcc0, hstw⟩:=HA.out.at hx
   subst hAe
   have hcc : ∀ j' v, [.int .i64 x.kind, .int .i64 x.n, .string x.s, .bool x.null, .slice A1 x.b.length c1, .slice A2 x.texts.length c2, .slice A3 x.nums.length c3][j']? = some v → wr.cell? ⟨b, off + j * 7 + j', none⟩ = some v:=fun j' v hv => HKR.out.cell (hcc0 j' v hv) (by simp)
   have HCC:=lh hcc
   have htl:=stepsB_take_le fl hx
   have HCX : Hid (∀ W : World, Kept [] w W → Calls Tryz.prog 44 #[.agg #[.int .i64 x.kind, .int .i64 x.n, .string x.s, .bool x.null, .slice A1 x.b.length c1, .slice A2 x.texts.length c2, .slice A3 x.nums.length c3], .bool fl] W (StepR (stepB fl x) (stepB fl x).length W)):=lh (fun (W : World) (hk : Kept [] w W) => stepBytes_any fl x (HR.out x (List.mem_of_getElem? hx)) (H64.out x (List.mem_of_getElem? hx)) A1 A2 A3 c1 c2 c3 W (hstw.kept hk (fun _ _ => by simp)))
   have HTK:=lh (stepsB_take fl hx)
   obtain ⟨F0, hF⟩ : ∃ F0, stepsB fl (l.take j) = F0:=⟨_, rfl⟩
   rw [hF] at HOR htl HTK
   obtain ⟨f1, hf1⟩ : ∃ f1, stepB fl x = f1:=⟨_, rfl⟩
   rw [hf1] at HCX htl HTK
   obtain ⟨m0, hm0⟩ : ∃ m0, F0.length = m0:=⟨_, rfl⟩
   obtain ⟨m1, hm1⟩ : ∃ m1, f1.length = m1:=⟨_, rfl⟩
   rw [hm0] at HOR htl
   rw [hm1] at HCX htl
   have HM0:=lh hm0
   have HM1:=lh hm1
   clear hcc hcc0 hstw hx hF hf1 hm0 hm1
   go_wp2_with (first
    | (refine wl_load_struct rfl 46 _ rfl Tryz.underlying46 rfl rfl b (off + j * 7) rfl [.int .i64 x.kind, .int .i64 x.n, .string x.s, .bool x.null, .slice A1 x.b.length c1, .slice A2 x.texts.length c2, .slice A3 x.nums.length c3] rfl HCC.out ?_)
    | (refine wl_load_struct rfl 46 _ rfl Tryz.underlying46 rfl rfl wr.heap.size 0 rfl [.int .i64 x.kind, .int .i64 x.n, .string x.s, .bool x.null, .slice A1 x.b.length c1, .slice A2 x.texts.length c2, .slice A3 x.nums.length c3] rfl (new_cells wr [.int .i64 x.kind, .int .i64 x.n, .string x.s, .bool x.null, .slice A1 x.b.length c1, .slice A2 x.texts.length c2, .slice A3 x.nums.length c3] 46) ?_)
    | (refine wl_store_struct rfl 46 _ _ rfl (cs:=#[.int .i64 x.kind, .int .i64 x.n, .string x.s, .bool x.null, .slice A1 x.b.length c1, .slice A2 x.texts.length c2, .slice A3 x.nums.length c3]) rfl wr.heap.size rfl rfl 46 _ (heap_alloc_new wr _) rfl (by simp [Value.oneCell']) ?_; rw [World.setRow_alloc_new])
    | ((with_reducible refine (HCX.out _ (HKR.out.alloc _)).mono ?_); rintro e w5 ⟨A9, c9, rfl, hsl9, hk5⟩; have HSL9:=lh hsl9; have HK5:=lh (((Kept.refl [] wr).alloc _).trans0 hk5); have hsz5:=hk5.size; rw [alloc_size] at hsz5; clear hsl9 hk5)
    | (at_builtin; refine wl_append rfl _ _ 34 rfl w.heap.size 5 Tryz.underlying34 info5b rfl (by decide) u5 m0 _ rfl (own_kept0 HOR.out HK5.out) A9 m1 c9 (Lib.byteCells f1) rfl HSL9.out (bytes_one _) (by omega) (by omega) (by omega) ?_; intro v6 w6 hown6 hk6 _; have HO6:=lh hown6; have HK6:=lh ((HKR.out.trans0 HK5.out).trans hk6 (fun x hx => .inr (own_ge HOR.out x (by simpa using hx)))); clear hown6 hk6))
   go_roundw
   case rel =>
    refine ⟨j + 1, by omega, by go_num, ?_, HK6.out⟩
    have ho:=HO6.out
    rw [← Lib.byteCells_append] at ho
    rw [HTK.out, List.length_append, HM0.out, HM1.out]
    exact ho
   case measure => (simp [intOf]) <;> omega
  ·have e : l.take j = l:=List.take_of_length_le (by rw [HN.out]; omega)
   rw [e] at HOR
   clear e
   go_wp2
   go_ret
   exact ⟨_, rfl, HOR.out, HKR.out⟩
end Go.Proofs.YtmpjikihnmagoaaGreatDoor
/-
 Rows of any data, of whatever kind; whether they fit (71, 42, 16); their patterns (20). Conditions: each lemma's own.
-/
namespace Go.Proofs.YtmpjikihnmagoaaGreatDoor
open Go.RowKit
/-- A datum of any kind. -/
structure Sk where
 /-- the kind as it stands -/
 ki : Int
 /-- the rest -/
 q : Sq
/-- Its cells. -/
def Sk.cells (k : Sk) : List Value:=[.int .i64 k.ki, .int .i64 k.q.x.n, .string k.q.x.s, .bool k.q.x.null, .slice k.q.a1 k.q.x.b.length k.q.c1, .slice k.q.a2 k.q.x.texts.length k.q.c2, .slice k.q.a3 k.q.x.nums.length k.q.c3]
theorem Sk.len (k : Sk) : k.cells.length = 7:=rfl
/-- Data of any kind in a row. -/
def SkAt (X : Nat → Prop) (w : World) (A : Option Addr) (l : List (Int × St)) : Prop :=
 ∃ q : List Sk, q.map (fun k => (k.ki, k.q.x)) = l ∧ SlIs w 7 A l.length (q.flatMap Sk.cells) ∧ (∀ a, A = some a → 0 < l.length → X a.block) ∧ ∀ k ∈ q, StW X w k.q.x k.q.a1 k.q.a2 k.q.a3
theorem SkAt.kept {X : Nat → Prop} {S : List Nat} {w w' : World} {A : Option Addr} {l : List (Int × St)} (h : SkAt X w A l) (k : Kept S w w') (hX : ∀ b, X b → b ∉ S) : SkAt X w' A l:=by
 obtain ⟨q, h1, h2, h3, h4⟩:=h
 exact ⟨q, h1, slis_kept h2 k fun a e h0 => hX _ (h3 a e h0), h3, fun s hs => (h4 s hs).kept k hX⟩
theorem SkAt.at {X : Nat → Prop} {w : World} {A : Option Addr} {l : List (Int × St)} (h : SkAt X w A l) {i : Nat} {ki : Int} {x : St} (hi : l[i]? = some (ki, x)) : ∃ b off A1 A2 A3 c1 c2 c3, A = some ⟨b, off, none⟩ ∧ (∀ j v, [Value.int .i64 ki, .int .i64 x.n, .string x.s, .bool x.null, .slice A1 x.b.length c1, .slice A2 x.texts.length c2, .slice A3 x.nums.length c3][j]? = some v → w.cell? ⟨b, off + i * 7 + j, none⟩ = some v) ∧ StW X w x A1 A2 A3:=by
 obtain ⟨q, h1, h2, h3, h4⟩:=h
 have hlt:=(List.getElem?_eq_some_iff.1 hi).1
 obtain ⟨b, off, hA, hc⟩:=h2.2.2 (by omega)
 rw [← h1, List.getElem?_map] at hi
 obtain ⟨s, hs, he⟩:=Option.map_eq_some_iff.1 hi
 cases he
 refine ⟨b, off, s.q.a1, s.q.a2, s.q.a3, s.q.c1, s.q.c2, s.q.c3, hA, fun j v hv => ?_, h4 s (List.mem_of_getElem? hs)⟩
 have hj : j < 7:=by
  have:=(List.getElem?_eq_some_iff.1 hv).1
  exact this
 rw [Nat.add_assoc]
 refine hc _ _ ?_
 rw [flat_get Sk.cells 7 Sk.len (by decide) q i j hj, hs]
 exact hv
/-- Data whose kinds are what they say. -/
theorem SkAt.st {X : Nat → Prop} {w : World} {A : Option Addr} {l : List (Int × St)} (h : SkAt X w A l) (hk : ∀ p ∈ l, p.1 = (p.2.kind : Int)) : StwAt X w A (l.map Prod.snd):=by
 obtain ⟨q, h1, h2, h3, h4⟩:=h
 have hc : ∀ k ∈ q, Sk.cells k = Sq.cells k.q:=by
  intro k hkq
  have h5:=hk (k.ki, k.q.x) (by rw [← h1]; exact List.mem_map_of_mem hkq)
  simp only at h5
  simp only [Sk.cells, Sq.cells, stCells, h5]
 have hf : q.flatMap Sk.cells = (q.map Sk.q).flatMap Sq.cells:=by
  rw [List.flatMap_map]
  clear h1 h2 h3 h4 hk
  induction q with
  | nil => rfl
  | cons a t ih =>
   rw [List.flatMap_cons, List.flatMap_cons, hc a (by simp), ih (fun k hk => hc k (by simp [hk]))]
 refine ⟨q.map Sk.q, ?_, ?_, ?_, ?_⟩
 ·rw [← h1, List.map_map, List.map_map]
  rfl
 ·rw [List.length_map, ← hf]
  exact h2
 ·intro a e h0
  exact h3 a e (by rwa [List.length_map] at h0)
 ·intro s hs
  obtain ⟨k, hkq, rfl⟩:=List.mem_map.1 hs
  exact h4 k hkq
/-- Some truth value, and nothing else has changed. -/
def SomeB (w : World) (e : Ending) (w' : World) : Prop:=∃ b, e = .returned (.bool b) ∧ Kept [] w w'
theorem fits71 (w : World) (A : Option Addr) (n c : Nat) (l : List ByteArray) (hl : l.length = n) (hA : SlIs w 1 A n (strs l)) : Calls Tryz.prog 71 #[.slice A n c] w (SomeB w):=by
 have HA:=lh hA
 have HL:=lh hl
 have hn63:=hA.2.1
 clear hA hl
 go_enter Tryz.func71, Tryz.ntmps71
 by_cases hbig : 2147483647 < n
 ·go_wp2
  go_ret
  exact ⟨_, rfl, Kept.refl _ _⟩
 ·go_wp2
  go_loopw [10] (fun iv wr => ∃ j : Nat, j ≤ n ∧ iv = .int .i64 j ∧ Kept [] w wr) (fun iv _ => n - (intOf iv).toNat)
  case atStart => exact ⟨0, Nat.zero_le _, rfl, Kept.refl _ _⟩
  case round =>
   obtain ⟨j, hj, rfl, hkr⟩:=hrel
   have HKR:=lh hkr
   clear hkr
   by_cases hlt : j < n
   ·obtain ⟨b3, off3, hAe, hcc⟩:=HA.out.2.2 (by omega)
    obtain ⟨y, hy⟩ : ∃ y, l[j]? = some y:=⟨_, List.getElem?_eq_getElem (by rw [HL.out]; exact hlt)⟩
    subst hAe
    have hcell : wr.cell? ⟨b3, off3 + j, none⟩ = some (.string y):=HKR.out.cell (hcc j _ (strs_at hy)) (by simp)
    clear hcc hy
    by_cases hys : 2147483647 < y.size
    ·go_wp2
     go_ret
     exact ⟨_, rfl, HKR.out⟩
    ·go_wp2
     go_roundw
     case rel => exact ⟨j + 1, by omega, by go_num, HKR.out⟩
     case measure => (simp [intOf]) <;> omega
   ·go_wp2
    go_ret
    exact ⟨_, rfl, HKR.out⟩
theorem fits42 {X : Nat → Prop} (ki : Int) (x : St) (A1 A2 A3 : Option Addr) (c1 c2 c3 : Nat) (w : World) (hw : StW X w x A1 A2 A3) : Calls Tryz.prog 42 #[.agg #[.int .i64 ki, .int .i64 x.n, .string x.s, .bool x.null, .slice A1 x.b.length c1, .slice A2 x.texts.length c2, .slice A3 x.nums.length c3]] w (SomeB w):=by
 have HC:=lh (fun (W : World) (hk : Kept [] w W) => fits71 W A2 x.texts.length c2 x.texts rfl ((hw.kept hk (fun _ _ => by simp)).t))
 obtain ⟨n2, hn2⟩ : ∃ n2, x.texts.length = n2:=⟨_, rfl⟩
 obtain ⟨n1, hn1⟩ : ∃ n1, x.b.length = n1:=⟨_, rfl⟩
 obtain ⟨n3, hn3⟩ : ∃ n3, x.nums.length = n3:=⟨_, rfl⟩
 rw [hn2] at HC
 rw [hn1, hn2, hn3]
 clear hw hn1 hn2 hn3
 go_enter Tryz.func42, Tryz.ntmps42
 by_cases h1 : 2147483647 < x.s.size
 ·go_wp2
  go_ret
  exact ⟨_, rfl, (Kept.refl [] w).alloc _⟩
 by_cases h2 : 2147483647 < n1
 ·go_wp2
  go_ret
  exact ⟨_, rfl, (Kept.refl [] w).alloc _⟩
 go_wp2_with ((with_reducible refine (HC.out _ ((Kept.refl [] w).alloc _)).mono ?_); rintro e w1 ⟨b1, rfl, hk1⟩; have hcK : ∀ j v, [.int .i64 ki, .int .i64 x.n, .string x.s, .bool x.null, .slice A1 n1 c1, .slice A2 n2 c2, .slice A3 n3 c3][j]? = some v → w1.cell? ⟨w.heap.size, j, none⟩ = some v:=(fun j v hv => hk1.cell (by have h1:=new_cells w [.int .i64 ki, .int .i64 x.n, .string x.s, .bool x.null, .slice A1 n1 c1, .slice A2 n2 c2, .slice A3 n3 c3] 46 j v hv; rw [Nat.zero_add] at h1; exact h1) (by simp)); have hc6:=hcK 6 _ rfl; have HK1:=lh (((Kept.refl [] w).alloc _).trans0 hk1); clear hk1 hcK; cases b1)
 all_goals (by_cases h3 : 2147483647 < n3)
 all_goals (first | go_wp2 | skip)
 all_goals go_ret
 all_goals exact ⟨_, rfl, HK1.out⟩
theorem fits16 {X : Nat → Prop} (l : List (Int × St)) (A : Option Addr) (c : Nat) (w : World) (hA : SkAt X w A l) : Calls Tryz.prog 16 #[.slice A l.length c] w (SomeB w):=by
 have hn63 : l.length ≤ 9223372036854775807:=by obtain ⟨q, h1, h2, _⟩:=hA; exact h2.2.1
 obtain ⟨n, hn⟩ : ∃ n, l.length = n:=⟨_, rfl⟩
 rw [hn] at hn63 ⊢
 have HN:=lh hn
 have HA:=lh hA
 clear hn hA
 go_enter Tryz.func16, Tryz.ntmps16
 by_cases hbig : 2147483647 < n
 ·go_wp2
  go_ret
  exact ⟨_, rfl, Kept.refl _ _⟩
 ·go_wp2
  go_loopw [10] (fun iv wr => ∃ j : Nat, j ≤ n ∧ iv = .int .i64 j ∧ Kept [] w wr) (fun iv _ => n - (intOf iv).toNat)
  case atStart => exact ⟨0, Nat.zero_le _, rfl, Kept.refl _ _⟩
  case round =>
   obtain ⟨j, hj, rfl, hkr⟩:=hrel
   have HKR:=lh hkr
   clear hkr
   by_cases hlt : j < n
   ·obtain ⟨⟨ki, x⟩, hx⟩ : ∃ y, l[j]? = some y:=⟨_, List.getElem?_eq_getElem (by rw [HN.out]; exact hlt)⟩
    obtain ⟨b, off, A1, A2, A3, c1, c2, c3, hAe, hcc0, hstw⟩:=HA.out.at hx
    subst hAe
    have hcc : ∀ j' v, [.int .i64 ki, .int .i64 x.n, .string x.s, .bool x.null, .slice A1 x.b.length c1, .slice A2 x.texts.length c2, .slice A3 x.nums.length c3][j']? = some v → wr.cell? ⟨b, off + j * 7 + j', none⟩ = some v:=fun j' v hv => HKR.out.cell (hcc0 j' v hv) (by simp)
    have HCC:=lh hcc
    have HCX:=lh (fun (W : World) (hk : Kept [] w W) => fits42 ki x A1 A2 A3 c1 c2 c3 W (hstw.kept hk (fun _ _ => by simp)))
    clear hcc hcc0 hstw hx
    go_wp2_with (first
     | (refine wl_load_struct rfl 46 _ rfl Tryz.underlying46 rfl rfl b (off + j * 7) rfl [.int .i64 ki, .int .i64 x.n, .string x.s, .bool x.null, .slice A1 x.b.length c1, .slice A2 x.texts.length c2, .slice A3 x.nums.length c3] rfl HCC.out ?_)
     | (refine wl_load_struct rfl 46 _ rfl Tryz.underlying46 rfl rfl wr.heap.size 0 rfl [.int .i64 ki, .int .i64 x.n, .string x.s, .bool x.null, .slice A1 x.b.length c1, .slice A2 x.texts.length c2, .slice A3 x.nums.length c3] rfl (new_cells wr [.int .i64 ki, .int .i64 x.n, .string x.s, .bool x.null, .slice A1 x.b.length c1, .slice A2 x.texts.length c2, .slice A3 x.nums.length c3] 46) ?_)
     | (refine wl_store_struct rfl 46 _ _ rfl (cs:=#[.int .i64 ki, .int .i64 x.n, .string x.s, .bool x.null, .slice A1 x.b.length c1, .slice A2 x.texts.length c2, .slice A3 x.nums.length c3]) rfl wr.heap.size rfl rfl 46 _ (heap_alloc_new wr _) rfl (by simp [Value.oneCell']) ?_; rw [World.setRow_alloc_new])
     | ((with_reducible refine (HCX.out _ (HKR.out.alloc _)).mono ?_); rintro e w5 ⟨b5, rfl, hk5⟩; have HK5:=lh ((HKR.out.alloc _).trans0 hk5); clear hk5; cases b5))
    ·go_ret
     exact ⟨_, rfl, HK5.out⟩
    ·go_roundw
     case rel => exact ⟨j + 1, by omega, by go_num, HK5.out⟩
     case measure => (simp [intOf]) <;> omega
   ·go_wp2
    go_ret
    exact ⟨_, rfl, HKR.out⟩
/-- What patterns leaves. -/
def PatsR (l : List St) (n : Nat) (w : World) (e : Ending) (w' : World) : Prop:=∃ A' c', e = .returned (.slice A' n c') ∧ StsAt (· < w'.heap.size) w' A' (l.map pat) ∧ Kept [] w w'
theorem pat_stv (X : Nat → Prop) (w : World) (x : St) : StV X w (pat x) none none none:=⟨SlIs.nil _ _ _, SlIs.nil _ _ _, SlIs.nil _ _ _, (fun _ e _ => by cases e), (fun _ e _ => by cases e), (fun _ e _ => by cases e)⟩
theorem patterns_any {X : Nat → Prop} (w : World) (A : Option Addr) (c : Nat) (l : List St) (hl : l.length ≤ 1000) (hA : StwAt X w A l) : Calls Tryz.prog 20 #[.slice A l.length c] w (PatsR l l.length w):=by
 obtain ⟨n, hn⟩ : ∃ n, l.length = n:=⟨_, rfl⟩
 rw [hn] at hl ⊢
 have HN:=lh hn
 have HA:=lh hA
 clear hn hA
 go_enter Tryz.func20, Tryz.ntmps20
 go_wp2
 go_loopw [3, 8] (fun tv iv wr => ∃ j : Nat, j ≤ n ∧ iv = .int .i64 j ∧ wr.ownsRow w.heap.size 46 7 tv j (((l.take j).map (fun x => (Sq.mk (pat x) none none none 0 0 0))).flatMap Sq.cells) ∧ Kept [] w wr) (fun _ iv _ => n - (intOf iv).toNat)
 case atStart => exact ⟨0, Nat.zero_le _, rfl, ⟨rfl, .inl ⟨rfl, rfl⟩⟩, Kept.refl _ _⟩
 case round =>
  obtain ⟨j, hj, rfl, hor, hkr⟩:=hrel
  have HOR:=lh hor
  have HKR:=lh hkr
  have hzr:=hkr.size
  clear hor hkr
  by_cases hlt : j < n
  ·obtain ⟨x, hx⟩ : ∃ x, l[j]? = some x:=⟨_, List.getElem?_eq_getElem (by rw [HN.out]; exact hlt)⟩
   obtain ⟨b, off, A1, A2, A3, c1, c2, c3, hAe, -, hcc0, hstv⟩:=HA.out.at hx
   subst hAe
   have hcc : ∀ j' v, [.int .i64 x.kind, .int .i64 x.n, .string x.s, .bool x.null, .slice A1 x.b.length c1, .slice A2 x.texts.length c2, .slice A3 x.nums.length c3][j']? = some v → wr.cell? ⟨b, off + j * 7 + j', none⟩ = some v:=fun j' v hv => HKR.out.cell (hcc0 j' v hv) (by simp)
   have HCC:=lh hcc
   have HTK:=lh (take_one hx)
   clear hcc hcc0 hstv hx
   go_wp2_with (first
    | (refine wl_load_struct rfl 46 _ rfl Tryz.underlying46 rfl rfl b (off + j * 7) rfl [.int .i64 x.kind, .int .i64 x.n, .string x.s, .bool x.null, .slice A1 x.b.length c1, .slice A2 x.texts.length c2, .slice A3 x.nums.length c3] rfl HCC.out ?_)
    | (refine wl_store_struct rfl 46 _ _ rfl (cs:=#[.int .i64 x.kind, .int .i64 x.n, .string x.s, .bool x.null, .slice A1 x.b.length c1, .slice A2 x.texts.length c2, .slice A3 x.nums.length c3]) rfl wr.heap.size rfl rfl 46 _ (heap_alloc_new wr _) rfl (by simp [Value.oneCell']) ?_; rw [World.setRow_alloc_new])
    | (at_builtin; refine wl_append rfl _ _ 40 rfl w.heap.size 46 Tryz.underlying40 info46b rfl (by decide) u3 j _ rfl (own_kept0 HOR.out (((Kept.refl _ _).alloc _).alloc _)) (some ⟨wr.heap.size + 1, 0, none⟩) 1 1 ([(Sq.mk (pat x) none none none 0 0 0)].flatMap Sq.cells) rfl (seven_sl (wr.alloc (.cells #[.int .i64 x.kind, .int .i64 x.n, .string x.s, .bool x.null, .slice A1 x.b.length c1, .slice A2 x.texts.length c2, .slice A3 x.nums.length c3] 46)) (Sq.mk (pat x) none none none 0 0 0) (alloc_size _ _) 46) (sq_ones _) (by omega) (by omega) (by rw [alloc_size, alloc_size]; omega) ?_; intro v' w6 hown6 hk6 hat6; have HO6:=lh hown6; have HK6:=lh (((HKR.out.alloc (.cells #[.int .i64 x.kind, .int .i64 x.n, .string x.s, .bool x.null, .slice A1 x.b.length c1, .slice A2 x.texts.length c2, .slice A3 x.nums.length c3] 46)).alloc (.cells (Sq.mk (pat x) none none none 0 0 0).cells.toArray 46)).trans hk6 (fun x hx => .inr (by have h9:=own_ge HOR.out x (by simpa using hx); omega))); clear hown6 hk6 hat6))
   go_roundw
   case rel =>
    refine ⟨j + 1, by omega, by go_num, ?_, HK6.out⟩
    rw [HTK.out, List.map_append, List.flatMap_append]
    exact HO6.out
   case measure => (simp [intOf]) <;> omega
  ·have e : l.take j = l:=List.take_of_length_le (by rw [HN.out]; omega)
   have ej : j = n:=by omega
   subst ej
   rw [e] at HOR
   obtain ⟨A', c', hv', hsl', hge'⟩:=own_sl HOR.out
   subst hv'
   have HSL':=lh hsl'
   have HGE':=lh hge'
   clear e hsl' hge'
   go_wp2
   go_ret
   refine ⟨A', c', rfl, ⟨l.map (fun x => (Sq.mk (pat x) none none none 0 0 0)), ?_, ?_, ?_, ?_⟩, HKR.out⟩
   ·rw [List.map_map]
    rfl
   ·rw [List.length_map, HN.out]; exact HSL'.out
   ·exact fun a e => (HGE'.out a e).2
   ·intro s hs
    obtain ⟨x, _, rfl⟩:=List.mem_map.1 hs
    exact pat_stv _ _ _
end Go.Proofs.YtmpjikihnmagoaaGreatDoor
