/-
  Whether data are right (17): where the answer is yes, they are. Conditions: none beyond each lemma's own.
-/
import Derived.Test.YtmpjikihnmagoaaGreatDoorZT46
import Derived.Test.YtmpjikihnmagoaaGreatDoorZT48
import Derived.Test.YtmpjikihnmagoaaGreatDoorZT49
import Derived.Test.YtmpjikihnmagoaaGreatDoorZT50
set_option maxRecDepth 100000
set_option maxHeartbeats 3200000
namespace Go.Proofs.YtmpjikihnmagoaaGreatDoor
open Go.RowKit
/-- A datum with its kind as it stands is right. -/
def RightP (p : Int × St) : Prop:=RightK p.1 p.2.n p.2.s p.2.null p.2.b.length p.2.texts.length p.2.nums.length p.2.texts p.2.nums
theorem stepRight_any {X : Nat → Prop} (ki : Int) (x : St) (A1 A2 A3 : Option Addr) (c1 c2 c3 : Nat) (w : World) (hw : StW X w x A1 A2 A3) : Calls Tryz.prog 43 #[.agg #[.int .i64 ki, .int .i64 x.n, .string x.s, .bool x.null, .slice A1 x.b.length c1, .slice A2 x.texts.length c2, .slice A3 x.nums.length c3]] w (TellB (RightP (ki, x)) w):=by
 obtain ⟨kind, n, s, null, b, texts, nums⟩:=x
 cases null with
 | false =>
  by_cases hlo : ki < 0
  ·exact sr_lo ki hlo n s A1 A2 A3 b.length texts.length nums.length c1 c2 c3 texts nums w rfl rfl hw.t hw.n
  ·by_cases hhi : 16 < ki
   ·exact sr_hi ki hhi n s A1 A2 A3 b.length texts.length nums.length c1 c2 c3 texts nums w rfl rfl hw.t hw.n
   ·rcases (by omega : ki = 0 ∨ ki = 1 ∨ ki = 2 ∨ ki = 3 ∨ ki = 4 ∨ ki = 5 ∨ ki = 6 ∨ ki = 7 ∨ ki = 8 ∨ ki = 9 ∨ ki = 10 ∨ ki = 11 ∨ ki = 12 ∨ ki = 13 ∨ ki = 14 ∨ ki = 15 ∨ ki = 16) with rfl | rfl | rfl | rfl | rfl | rfl | rfl | rfl | rfl | rfl | rfl | rfl | rfl | rfl | rfl | rfl | rfl
    ·exact sr_fa 0 (by decide) n s A1 A2 A3 b.length texts.length nums.length c1 c2 c3 texts nums w rfl rfl hw.t hw.n
    ·exact sr_fa 1 (by decide) n s A1 A2 A3 b.length texts.length nums.length c1 c2 c3 texts nums w rfl rfl hw.t hw.n
    ·exact sr_fa 2 (by decide) n s A1 A2 A3 b.length texts.length nums.length c1 c2 c3 texts nums w rfl rfl hw.t hw.n
    ·exact sr_fa 3 (by decide) n s A1 A2 A3 b.length texts.length nums.length c1 c2 c3 texts nums w rfl rfl hw.t hw.n
    ·exact sr_fa 4 (by decide) n s A1 A2 A3 b.length texts.length nums.length c1 c2 c3 texts nums w rfl rfl hw.t hw.n
    ·exact sr_fa 5 (by decide) n s A1 A2 A3 b.length texts.length nums.length c1 c2 c3 texts nums w rfl rfl hw.t hw.n
    ·exact sr_fb 6 (by decide) n s A1 A2 A3 b.length texts.length nums.length c1 c2 c3 texts nums w rfl rfl hw.t hw.n
    ·exact sr_fb 7 (by decide) n s A1 A2 A3 b.length texts.length nums.length c1 c2 c3 texts nums w rfl rfl hw.t hw.n
    ·exact sr_fb 8 (by decide) n s A1 A2 A3 b.length texts.length nums.length c1 c2 c3 texts nums w rfl rfl hw.t hw.n
    ·exact sr_fb 9 (by decide) n s A1 A2 A3 b.length texts.length nums.length c1 c2 c3 texts nums w rfl rfl hw.t hw.n
    ·exact sr_fb 10 (by decide) n s A1 A2 A3 b.length texts.length nums.length c1 c2 c3 texts nums w rfl rfl hw.t hw.n
    ·exact sr_fb 11 (by decide) n s A1 A2 A3 b.length texts.length nums.length c1 c2 c3 texts nums w rfl rfl hw.t hw.n
    ·exact sr_fc 12 (by decide) n s A1 A2 A3 b.length texts.length nums.length c1 c2 c3 texts nums w rfl rfl hw.t hw.n
    ·exact sr_fc 13 (by decide) n s A1 A2 A3 b.length texts.length nums.length c1 c2 c3 texts nums w rfl rfl hw.t hw.n
    ·exact sr_f14 n s A1 A2 A3 b.length texts.length nums.length c1 c2 c3 texts nums w rfl rfl hw.t hw.n
    ·exact sr_fc 15 (by decide) n s A1 A2 A3 b.length texts.length nums.length c1 c2 c3 texts nums w rfl rfl hw.t hw.n
    ·exact sr_fc 16 (by decide) n s A1 A2 A3 b.length texts.length nums.length c1 c2 c3 texts nums w rfl rfl hw.t hw.n
 | true =>
  by_cases h10 : ki = 10
  ·subst h10
   exact sr_ta 10 (by decide) n s A1 A2 A3 b.length texts.length nums.length c1 c2 c3 texts nums w rfl rfl hw.t hw.n
  ·by_cases h11 : ki = 11
   ·subst h11
    exact sr_ta 11 (by decide) n s A1 A2 A3 b.length texts.length nums.length c1 c2 c3 texts nums w rfl rfl hw.t hw.n
   ·by_cases h12 : ki = 12
    ·subst h12
     exact sr_ta 12 (by decide) n s A1 A2 A3 b.length texts.length nums.length c1 c2 c3 texts nums w rfl rfl hw.t hw.n
    ·exact sr_other ki n s A1 A2 A3 b.length texts.length nums.length c1 c2 c3 w _ h10 h11 h12
/-- A right datum, its kind as a number. -/
theorem RightP.b {p : Int × St} (h : RightP p) (h64 : Num64 p.2.n) (hk : p.1 = (p.2.kind : Int)) : RightB p.2:=by
 obtain ⟨ki, x⟩:=p
 simp only at hk h64
 subst hk
 unfold RightP at h
 exact {
  kind:=by have:=h.k16; dsimp only at *; omega
  null:=fun hn => by
   have h1:=h.null hn
   simp only at h1
   exact ⟨by dsimp only at *; omega, h1.2.1, List.eq_nil_of_length_eq_zero h1.2.2⟩
  s200:=h.s200
  b300:=h.b300
  t10:=h.t10
  n10:=h.n10
  t60:=h.t60
  n32:=fun e => h.n32 (by (try dsimp only at *); omega)
  num:=fun e => h.num (by (try dsimp only at *); omega)
  text:=fun e => h.text (by (try dsimp only at *); omega) (by (try dsimp only at *); omega)
  bytes:=fun e => List.eq_nil_of_length_eq_zero (h.bytes (by (try dsimp only at *); omega) (by (try dsimp only at *); omega) (by (try dsimp only at *); omega))
  texts:=fun e => List.eq_nil_of_length_eq_zero (h.texts (by (try dsimp only at *); omega))
  nums:=fun e => List.eq_nil_of_length_eq_zero (h.nums (by (try dsimp only at *); omega) (by (try dsimp only at *); omega))
  f8:=fun e => h.f8 (by (try dsimp only at *); omega)
  f16:=fun e => h.f16 (by (try dsimp only at *); omega)
  f32:=fun e => h.f32 (by (try dsimp only at *); omega)
  bool:=fun e => h.bool (by (try dsimp only at *); omega)
  arr:=fun e => h.arr (by (try dsimp only at *); omega)
  i64:=h64 }
theorem lsteps_any {X : Nat → Prop} (l : List (Int × St)) (A : Option Addr) (c : Nat) (w : World) (hA : SkAt X w A l) : Calls Tryz.prog 17 #[.slice A l.length c] w (TellB (l.length ≤ 20 ∧ ∀ p ∈ l, RightP p) w):=by
 obtain ⟨n, hn⟩ : ∃ n, l.length = n:=⟨_, rfl⟩
 rw [hn]
 have HN:=lh hn
 have HA:=lh hA
 clear hn hA
 go_enter Tryz.func17, Tryz.ntmps17
 by_cases hbig : 20 < n
 ·go_wp2
  go_ret
  exact ⟨false, rfl, (fun hb => by cases hb), Kept.refl _ _⟩
 ·go_wp2
  go_loopw [10] (fun iv wr => ∃ j : Nat, j ≤ n ∧ iv = .int .i64 j ∧ (∀ p ∈ l.take j, RightP p) ∧ Kept [] w wr) (fun iv _ => n - (intOf iv).toNat)
  case atStart => exact ⟨0, Nat.zero_le _, rfl, by simp, Kept.refl _ _⟩
  case round =>
   obtain ⟨j, hj, rfl, hok, hkr⟩:=hrel
   have HOK:=lh hok
   have HKR:=lh hkr
   clear hkr hok
   by_cases hlt : j < n
   ·obtain ⟨⟨ki, x⟩, hx⟩ : ∃ y, l[j]? = some y:=⟨_, List.getElem?_eq_getElem (by rw [HN.out]; exact hlt)⟩
    obtain ⟨b, off, A1, A2, A3, c1, c2, c3, hAe, hcc0, hstw⟩:=HA.out.at hx
    subst hAe
    have hcc : ∀ j' v, [.int .i64 ki, .int .i64 x.n, .string x.s, .bool x.null, .slice A1 x.b.length c1, .slice A2 x.texts.length c2, .slice A3 x.nums.length c3][j']? = some v → wr.cell? ⟨b, off + j * 7 + j', none⟩ = some v:=fun j' v hv => HKR.out.cell (hcc0 j' v hv) (by simp)
    have HCC:=lh hcc
    have HCX:=lh (fun (W : World) (hk : Kept [] w W) => stepRight_any ki x A1 A2 A3 c1 c2 c3 W (hstw.kept hk (fun _ _ => by simp)))
    have HTK:=lh (take_one hx)
    clear hcc hcc0 hstw hx
    go_wp2_with (first
     | (refine wl_load_struct rfl 46 _ rfl Tryz.underlying46 rfl rfl b (off + j * 7) rfl [.int .i64 ki, .int .i64 x.n, .string x.s, .bool x.null, .slice A1 x.b.length c1, .slice A2 x.texts.length c2, .slice A3 x.nums.length c3] rfl HCC.out ?_)
     | (refine wl_load_struct rfl 46 _ rfl Tryz.underlying46 rfl rfl wr.heap.size 0 rfl [.int .i64 ki, .int .i64 x.n, .string x.s, .bool x.null, .slice A1 x.b.length c1, .slice A2 x.texts.length c2, .slice A3 x.nums.length c3] rfl (new_cells wr [.int .i64 ki, .int .i64 x.n, .string x.s, .bool x.null, .slice A1 x.b.length c1, .slice A2 x.texts.length c2, .slice A3 x.nums.length c3] 46) ?_)
     | (refine wl_store_struct rfl 46 _ _ rfl (cs:=#[.int .i64 ki, .int .i64 x.n, .string x.s, .bool x.null, .slice A1 x.b.length c1, .slice A2 x.texts.length c2, .slice A3 x.nums.length c3]) rfl wr.heap.size rfl rfl 46 _ (heap_alloc_new wr _) rfl (by simp [Value.oneCell']) ?_; rw [World.setRow_alloc_new])
     | ((with_reducible refine (HCX.out _ (HKR.out.alloc _)).mono ?_); rintro e w5 ⟨b5, rfl, hb5, hk5⟩; have HB5:=lh hb5; have HK5:=lh ((HKR.out.alloc _).trans0 hk5); clear hk5 hb5; cases b5))
    ·go_ret
     exact ⟨false, rfl, (fun hb => by cases hb), HK5.out⟩
    ·go_roundw
     case rel =>
      refine ⟨j + 1, by omega, by go_num, (fun p hp => ?_), HK5.out⟩
      rw [HTK.out] at hp
      rcases List.mem_append.1 hp with h | h
      ·exact HOK.out p h
      ·rw [List.mem_singleton.1 h]; exact HB5.out (by simp)
     case measure => (simp [intOf]) <;> omega
   ·have e : l.take j = l:=List.take_of_length_le (by rw [HN.out]; omega)
    rw [e] at HOK
    clear e
    go_wp2
    go_ret
    exact ⟨true, rfl, (fun _ => ⟨by omega, HOK.out⟩), HKR.out⟩
end Go.Proofs.YtmpjikihnmagoaaGreatDoor
