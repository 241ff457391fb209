/-
  murmur2, by the package and by the specification. Conditions: keys of 100 bytes at most.
-/
import Derived.Test.YtghgffhcdnmpnaaGreatH0
import Derived.Deep.QuietTactic
import Derived.BigQuiet
namespace Go.Proofs.YtghgffhcdnmpnaaGreat
open Go.RowKit
def le4 (x0 x1 x2 x3 : Int) : Int := bits .or .u32 (bits .or .u32 (bits .or .u32 x0 (x1 * 256)) (x2 * 65536)) (x3 * 16777216)
theorem or_in (a b : Int) (h1 : 0 ≤ a) (h2 : a ≤ 4294967295) (h3 : 0 ≤ b) (h4 : b ≤ 4294967295) : 0 ≤ bits .or .u32 a b ∧ bits .or .u32 a b ≤ 4294967295 := by
  rw [u32_or a b h1 (by omega) h3 (by omega)]
  have : a.toNat ||| b.toNat < 2 ^ 32 := Nat.or_lt_two_pow (by omega) (by omega)
  omega
def isB (x : Int) : Prop := 0 ≤ x ∧ x ≤ 255
theorem le4_in (x0 x1 x2 x3 : Int) (b0 : isB x0) (b1 : isB x1) (b2 : isB x2) (b3 : isB x3) : 0 ≤ le4 x0 x1 x2 x3 ∧ le4 x0 x1 x2 x3 ≤ 4294967295 := by
  unfold isB at *
  have h1 := or_in x0 (x1 * 256) (by omega) (by omega) (by omega) (by omega)
  have h2 := or_in _ (x2 * 65536) h1.1 h1.2 (by omega) (by omega)
  exact or_in _ (x3 * 16777216) h2.1 h2.2 (by omega) (by omega)
theorem le32_any (b off n c : Nat) (x0 x1 x2 x3 : Int) (w : World) (hn : 4 ≤ n) (h0 : w.cell? ⟨b, off, none⟩ = some (.int .u8 x0)) (h1 : w.cell? ⟨b, off + 1, none⟩ = some (.int .u8 x1)) (h2 : w.cell? ⟨b, off + 2, none⟩ = some (.int .u8 x2)) (h3 : w.cell? ⟨b, off + 3, none⟩ = some (.int .u8 x3))
    (b0 : isB x0) (b1 : isB x1) (b2 : isB x2) (b3 : isB x3) :
    Calls Tryz.prog 142 #[.agg #[], .slice (some ⟨b, off, none⟩) n c] w fun e w' => e = .returned (.int .u32 (le4 x0 x1 x2 x3)) ∧ Kept [] w w' := by
  obtain ⟨b00, b01⟩ := b0
  obtain ⟨b10, b11⟩ := b1
  obtain ⟨b20, b21⟩ := b2
  obtain ⟨b30, b31⟩ := b3
  have hlt : b < w.heap.size := World.block_lt_of_cell? w _ h0
  go_enter Tryz.func142, Tryz.ntmps142
  go_wp2
  go_quiet (fail)
  go_wp2
  go_ret
  exact ⟨rfl, ((Kept.refl _ _).alloc _).drewN nq⟩
/-! ### The plain sum -/
def mMul (x : Int) : Int := x * 1540483477 % 4294967296
def murK (k : Int) : Int := mMul (bits .xor .u32 (mMul k) (mMul k / 16777216))
def murStep (h k : Int) : Int := bits .xor .u32 (mMul h) (murK k)
def murTail : List Int → Int → Int
  | [a], h => mMul (bits .xor .u32 h a)
  | [a, b], h => mMul (bits .xor .u32 (bits .xor .u32 h (b * 256)) a)
  | [a, b, c], h => mMul (bits .xor .u32 (bits .xor .u32 (bits .xor .u32 h (c * 65536)) (b * 256)) a)
  | _, h => h
def murEnd (h : Int) : Int := bits .xor .u32 (mMul (bits .xor .u32 h (h / 8192))) (mMul (bits .xor .u32 h (h / 8192)) / 32768)
def murFold : List Int → Int → Int
  | a :: b :: c :: d :: r, h => murFold r (murStep h (le4 a b c d))
  | l, h => murTail l h
def murL (l : List Int) : Int := murEnd (murFold l (bits .xor .u32 2538058380 l.length))
theorem mMul_in (x : Int) : 0 ≤ mMul x ∧ mMul x ≤ 4294967295 := by unfold mMul; omega
theorem murK_in (k : Int) : 0 ≤ murK k ∧ murK k ≤ 4294967295 := mMul_in _
theorem murStep_in (h k : Int) : 0 ≤ murStep h k ∧ murStep h k ≤ 4294967295 := xor_in _ _ (mMul_in h).1 (mMul_in h).2 (murK_in k).1 (murK_in k).2
theorem drop4 {l : List Int} {i : Nat} {a b c d : Int} (h0 : l[i]? = some a) (h1 : l[i + 1]? = some b) (h2 : l[i + 2]? = some c) (h3 : l[i + 3]? = some d) : l.drop i = a :: b :: c :: d :: l.drop (i + 4) := by
  obtain ⟨k0, rfl⟩ := List.getElem?_eq_some_iff.1 h0
  obtain ⟨k1, rfl⟩ := List.getElem?_eq_some_iff.1 h1
  obtain ⟨k2, rfl⟩ := List.getElem?_eq_some_iff.1 h2
  obtain ⟨k3, rfl⟩ := List.getElem?_eq_some_iff.1 h3
  rw [List.drop_eq_getElem_cons k0, List.drop_eq_getElem_cons k1, List.drop_eq_getElem_cons k2, List.drop_eq_getElem_cons k3]
theorem drop1 {l : List Int} {i : Nat} {a : Int} (h0 : l[i]? = some a) (hl : l.length ≤ i + 1) : l.drop i = [a] := by
  obtain ⟨k0, rfl⟩ := List.getElem?_eq_some_iff.1 h0
  rw [List.drop_eq_getElem_cons k0, List.drop_eq_nil_of_le hl]
theorem drop2 {l : List Int} {i : Nat} {a b : Int} (h0 : l[i]? = some a) (h1 : l[i + 1]? = some b) (hl : l.length ≤ i + 2) : l.drop i = [a, b] := by
  obtain ⟨k0, rfl⟩ := List.getElem?_eq_some_iff.1 h0
  rw [List.drop_eq_getElem_cons k0, drop1 h1 hl]
theorem drop3 {l : List Int} {i : Nat} {a b c : Int} (h0 : l[i]? = some a) (h1 : l[i + 1]? = some b) (h2 : l[i + 2]? = some c) (hl : l.length ≤ i + 3) : l.drop i = [a, b, c] := by
  obtain ⟨k0, rfl⟩ := List.getElem?_eq_some_iff.1 h0
  rw [List.drop_eq_getElem_cons k0, drop2 h1 h2 hl]
theorem murFold_4 {l : List Int} {i : Nat} {a b c d h : Int} (h0 : l[i]? = some a) (h1 : l[i + 1]? = some b) (h2 : l[i + 2]? = some c) (h3 : l[i + 3]? = some d) : murFold (l.drop i) h = murFold (l.drop (i + 4)) (murStep h (le4 a b c d)) := by
  rw [drop4 h0 h1 h2 h3]; rfl
set_option maxHeartbeats 800000 in
/-- The specification's murmur2. -/
theorem murmurS_any (A : Option Addr) (c : Nat) (key : List Int) (w : World) (h : SlIs w 1 A key.length (bytesV key)) (hl : key.length ≤ 100) (hb : ∀ x ∈ key, isB x) :
    Calls Tryz.prog 34 #[.slice A key.length c] w fun e w' => e = .returned (.int .u32 (murL key)) ∧ Kept [] w w' := by
  have hx0 := xor_in 2538058380 key.length (by omega) (by omega) (by omega) (by omega)
  go_enter Tryz.func34, Tryz.ntmps34
  go_wp2
  go_loopw [3, 4] (fun s i wr => ∃ (k : Nat) (x : Int), k ≤ key.length ∧ i = .int .i64 k ∧ 0 ≤ x ∧ x ≤ 4294967295 ∧ s = .int .u32 x ∧ murFold key (bits .xor .u32 2538058380 key.length) = murFold (key.drop k) x ∧ Kept [] w wr) (fun _ i _ => key.length - (intOf i).toNat)
  case atStart => exact ⟨0, _, Nat.zero_le _, rfl, hx0.1, hx0.2, rfl, rfl, Kept.refl _ _⟩
  case round =>
    obtain ⟨k, x, hk, rfl, hx0, hx1, rfl, hm, hkr⟩ := hrel
    have HM := Lib.hid hm
    have HK := Lib.hid hkr
    clear hm hkr
    by_cases hlt : k + 4 ≤ key.length
    · obtain ⟨b, off, rfl, hcc⟩ := h.2.2 (by omega)
      obtain ⟨y0, hy0⟩ : ∃ y, key[k]? = some y := ⟨_, List.getElem?_eq_getElem (by omega)⟩
      obtain ⟨y1, hy1⟩ : ∃ y, key[k + 1]? = some y := ⟨_, List.getElem?_eq_getElem (by omega)⟩
      obtain ⟨y2, hy2⟩ : ∃ y, key[k + 2]? = some y := ⟨_, List.getElem?_eq_getElem (by omega)⟩
      obtain ⟨y3, hy3⟩ : ∃ y, key[k + 3]? = some y := ⟨_, List.getElem?_eq_getElem (by omega)⟩
      have c0 : wr.cell? ⟨b, off + k, none⟩ = some (.int .u8 y0) := HK.out.cell (hcc k _ (bytesV_get hy0)) (by simp)
      have c1 : wr.cell? ⟨b, off + (k + 1), none⟩ = some (.int .u8 y1) := HK.out.cell (hcc (k + 1) _ (bytesV_get hy1)) (by simp)
      have c2 : wr.cell? ⟨b, off + (k + 2), none⟩ = some (.int .u8 y2) := HK.out.cell (hcc (k + 2) _ (bytesV_get hy2)) (by simp)
      have c3 : wr.cell? ⟨b, off + (k + 3), none⟩ = some (.int .u8 y3) := HK.out.cell (hcc (k + 3) _ (bytesV_get hy3)) (by simp)
      have B0 := hb y0 (List.mem_of_getElem? hy0)
      have B1 := hb y1 (List.mem_of_getElem? hy1)
      have B2 := hb y2 (List.mem_of_getElem? hy2)
      have B3 := hb y3 (List.mem_of_getElem? hy3)
      obtain ⟨l0, l1⟩ := le4_in y0 y1 y2 y3 B0 B1 B2 B3
      have HF := Lib.hid (murFold_4 (h := x) hy0 hy1 hy2 hy3)
      obtain ⟨b00, b01⟩ := B0
      obtain ⟨b10, b11⟩ := B1
      obtain ⟨b20, b21⟩ := B2
      obtain ⟨b30, b31⟩ := B3
      obtain ⟨z, hz⟩ : ∃ z, le4 y0 y1 y2 y3 = z := ⟨_, rfl⟩
      clear hcc h hy0 hy1 hy2 hy3
      go_wp2
      go_quiet (fail)
      rw [show bits .or .u32 (bits .or .u32 (bits .or .u32 y0 (y1 * 256)) (y2 * 65536)) (y3 * 16777216) = z from hz]
      rw [hz] at l0 l1 HF
      clear hz
      go_wp2
      go_roundw
      case rel =>
        have hs := murStep_in x z
        refine ⟨k + 4, murStep x z, by omega, by go_num, hs.1, hs.2, rfl, HM.out.trans HF.out, HK.out.drewN nq⟩
      case measure => simp [intOf]; omega
    · rcases (by omega : key.length = k ∨ key.length = k + 1 ∨ key.length = k + 2 ∨ key.length = k + 3) with e | e | e | e
      · have hd : murEnd (murFold (key.drop k) x) = murL key := by rw [murL, HM.out]
        rw [List.drop_eq_nil_of_le (by omega)] at hd
        have HD := Lib.hid hd
        have e1 : key.length ≤ k := by omega
        clear e hd h
        go_wp2
        go_ret
        exact ⟨ret_int32 HD.out, HK.out⟩
      · obtain ⟨b, off, rfl, hcc⟩ := h.2.2 (by omega)
        obtain ⟨y0, hy0⟩ : ∃ y, key[k]? = some y := ⟨_, List.getElem?_eq_getElem (by omega)⟩
        have c0 : wr.cell? ⟨b, off + k, none⟩ = some (.int .u8 y0) := HK.out.cell (hcc k _ (bytesV_get hy0)) (by simp)
        obtain ⟨b00, b01⟩ := hb y0 (List.mem_of_getElem? hy0)
        have hd : murEnd (murFold (key.drop k) x) = murL key := by rw [murL, HM.out]
        rw [drop1 hy0 (by omega)] at hd
        have HD := Lib.hid hd
        have e1 : key.length ≤ k + 1 := by omega
        have e2 : k + 1 ≤ key.length := by omega
        clear e hd h hcc hy0
        go_wp2
        go_ret
        exact ⟨ret_int32 HD.out, HK.out⟩
      · obtain ⟨b, off, rfl, hcc⟩ := h.2.2 (by omega)
        obtain ⟨y0, hy0⟩ : ∃ y, key[k]? = some y := ⟨_, List.getElem?_eq_getElem (by omega)⟩
        obtain ⟨y1, hy1⟩ : ∃ y, key[k + 1]? = some y := ⟨_, List.getElem?_eq_getElem (by omega)⟩
        have c0 : wr.cell? ⟨b, off + k, none⟩ = some (.int .u8 y0) := HK.out.cell (hcc k _ (bytesV_get hy0)) (by simp)
        have c1 : wr.cell? ⟨b, off + (k + 1), none⟩ = some (.int .u8 y1) := HK.out.cell (hcc (k + 1) _ (bytesV_get hy1)) (by simp)
        obtain ⟨b00, b01⟩ := hb y0 (List.mem_of_getElem? hy0)
        obtain ⟨b10, b11⟩ := hb y1 (List.mem_of_getElem? hy1)
        have hd : murEnd (murFold (key.drop k) x) = murL key := by rw [murL, HM.out]
        rw [drop2 hy0 hy1 (by omega)] at hd
        have HD := Lib.hid hd
        have e1 : key.length ≤ k + 2 := by omega
        have e2 : k + 2 ≤ key.length := by omega
        have X1 := xor_in x (y1 * 256) hx0 hx1 (by omega) (by omega)
        clear e hd h hcc hy0 hy1
        go_wp2
        go_ret
        exact ⟨ret_int32 HD.out, HK.out⟩
      · obtain ⟨b, off, rfl, hcc⟩ := h.2.2 (by omega)
        obtain ⟨y0, hy0⟩ : ∃ y, key[k]? = some y := ⟨_, List.getElem?_eq_getElem (by omega)⟩
        obtain ⟨y1, hy1⟩ : ∃ y, key[k + 1]? = some y := ⟨_, List.getElem?_eq_getElem (by omega)⟩
        obtain ⟨y2, hy2⟩ : ∃ y, key[k + 2]? = some y := ⟨_, List.getElem?_eq_getElem (by omega)⟩
        have c0 : wr.cell? ⟨b, off + k, none⟩ = some (.int .u8 y0) := HK.out.cell (hcc k _ (bytesV_get hy0)) (by simp)
        have c1 : wr.cell? ⟨b, off + (k + 1), none⟩ = some (.int .u8 y1) := HK.out.cell (hcc (k + 1) _ (bytesV_get hy1)) (by simp)
        have c2 : wr.cell? ⟨b, off + (k + 2), none⟩ = some (.int .u8 y2) := HK.out.cell (hcc (k + 2) _ (bytesV_get hy2)) (by simp)
        obtain ⟨b00, b01⟩ := hb y0 (List.mem_of_getElem? hy0)
        obtain ⟨b10, b11⟩ := hb y1 (List.mem_of_getElem? hy1)
        obtain ⟨b20, b21⟩ := hb y2 (List.mem_of_getElem? hy2)
        have hd : murEnd (murFold (key.drop k) x) = murL key := by rw [murL, HM.out]
        rw [drop3 hy0 hy1 hy2 (by omega)] at hd
        have HD := Lib.hid hd
        have e1 : key.length ≤ k + 3 := by omega
        have e2 : k + 3 ≤ key.length := by omega
        have X2 := xor_in x (y2 * 65536) hx0 hx1 (by omega) (by omega)
        have X1 := xor_in _ (y1 * 256) X2.1 X2.2 (by omega) (by omega)
        clear e hd h hcc hy0 hy1 hy2
        go_wp2
        go_ret
        exact ⟨ret_int32 HD.out, HK.out⟩
set_option maxHeartbeats 800000 in
/-- The package's murmur2. -/
theorem murmurC_any (A : Option Addr) (c : Nat) (key : List Int) (w : World) (h : SlIs w 1 A key.length (bytesV key)) (hc : key.length ≤ c) (hl : key.length ≤ 100) (hb : ∀ x ∈ key, isB x) :
    Calls Tryz.prog 141 #[.slice A key.length c] w fun e w' => e = .returned (.int .u32 (murL key)) ∧ Kept [] w w' := by
  have hx0 := xor_in 2538058380 key.length (by omega) (by omega) (by omega) (by omega)
  go_enter Tryz.func141, Tryz.ntmps141
  go_wp2
  go_loopw [0, 3] (fun v s wr => ∃ (k n' c' : Nat) (A' : Option Addr) (x : Int), k ≤ key.length ∧ v = .slice A' n' c' ∧ n' + k = key.length ∧ n' ≤ c' ∧ SlIs wr 1 A' n' (bytesV (key.drop k)) ∧ 0 ≤ x ∧ x ≤ 4294967295 ∧ s = .int .u32 x ∧ murFold key (bits .xor .u32 2538058380 key.length) = murFold (key.drop k) x ∧ Kept [] w wr) (fun v _ _ => match v with | .slice _ n _ => n | _ => 0)
  case atStart => exact ⟨0, _, _, A, _, Nat.zero_le _, rfl, by omega, hc, h, hx0.1, hx0.2, rfl, rfl, Kept.refl _ _⟩
  case round =>
    obtain ⟨k, n', c', A', x, hk, rfl, hn, hnc, hsl, hx0, hx1, rfl, hm, hkr⟩ := hrel
    have HM := Lib.hid hm
    have HK := Lib.hid hkr
    have HN := Lib.hid hn
    clear hm hkr h hc
    by_cases hlt : 4 ≤ n'
    · obtain ⟨b, off, rfl, hcc⟩ := hsl.2.2 (by omega)
      obtain ⟨y0, hy0⟩ : ∃ y, key[k]? = some y := ⟨_, List.getElem?_eq_getElem (by omega)⟩
      obtain ⟨y1, hy1⟩ : ∃ y, key[k + 1]? = some y := ⟨_, List.getElem?_eq_getElem (by omega)⟩
      obtain ⟨y2, hy2⟩ : ∃ y, key[k + 2]? = some y := ⟨_, List.getElem?_eq_getElem (by omega)⟩
      obtain ⟨y3, hy3⟩ : ∃ y, key[k + 3]? = some y := ⟨_, List.getElem?_eq_getElem (by omega)⟩
      have hd := drop4 hy0 hy1 hy2 hy3
      have c0 : wr.cell? ⟨b, off, none⟩ = some (.int .u8 y0) := hcc 0 _ (by rw [hd]; rfl)
      have c1 : wr.cell? ⟨b, off + 1, none⟩ = some (.int .u8 y1) := hcc 1 _ (by rw [hd]; rfl)
      have c2 : wr.cell? ⟨b, off + 2, none⟩ = some (.int .u8 y2) := hcc 2 _ (by rw [hd]; rfl)
      have c3 : wr.cell? ⟨b, off + 3, none⟩ = some (.int .u8 y3) := hcc 3 _ (by rw [hd]; rfl)
      have B0 := hb y0 (List.mem_of_getElem? hy0)
      have B1 := hb y1 (List.mem_of_getElem? hy1)
      have B2 := hb y2 (List.mem_of_getElem? hy2)
      have B3 := hb y3 (List.mem_of_getElem? hy3)
      obtain ⟨l0, l1⟩ := le4_in y0 y1 y2 y3 B0 B1 B2 B3
      have HF := Lib.hid (murFold_4 (h := x) hy0 hy1 hy2 hy3)
      have hle := le32_any b off n' c' y0 y1 y2 y3 wr hlt c0 c1 c2 c3 B0 B1 B2 B3
      obtain ⟨z, hz⟩ : ∃ z, le4 y0 y1 y2 y3 = z := ⟨_, rfl⟩
      rw [hz] at l0 l1 HF hle
      have HLE := Lib.hid hle
      have HSL : ∀ W, Kept [] wr W → SlIs W 1 (if c' = 4 then some ⟨b, off, none⟩ else some ⟨b, off + 4, none⟩) (n' - 4) (bytesV (key.drop (k + 4))) := fun W hk => by
        refine ⟨by rw [bytesV, List.length_map, List.length_drop]; omega, by omega, fun hpos => ?_⟩
        rw [if_neg (by omega)]
        refine ⟨b, off + 4, rfl, fun i v hv => ?_⟩
        have := hcc (i + 4) v (by rw [hd]; exact hv)
        rw [show off + (i + 4) = off + 4 + i by omega] at this
        exact hk.cell this (by simp)
      have HS := Lib.hid HSL
      clear hcc hy0 hy1 hy2 hy3 hd hsl hz c0 c1 c2 c3 hle HSL B0 B1 B2 B3
      have hst := murStep_in x z
      by_cases hc4 : c' = 4
      · subst hc4
        go_wp2_with (with_reducible refine HLE.out.mono ?_; rintro e w1 ⟨rfl, hk1⟩; have HK1 := Lib.hid hk1; clear hk1)
        go_roundw
        case rel =>
          have h5 := HS.out w1 HK1.out
          rw [if_pos trivial, show n' - 4 = 0 by omega] at h5
          exact ⟨k + 4, 0, 0, _, murStep x z, by omega, rfl, by omega, by omega, h5, hst.1, hst.2, rfl, HM.out.trans HF.out, HK.out.trans0 HK1.out⟩
        case measure => show 0 < n'; omega
      · go_wp2_with (with_reducible refine HLE.out.mono ?_; rintro e w1 ⟨rfl, hk1⟩; have HK1 := Lib.hid hk1; clear hk1)
        go_roundw
        case rel =>
          have h5 := HS.out w1 HK1.out
          rw [if_neg hc4] at h5
          exact ⟨k + 4, n' - 4, c' - 4, _, murStep x z, by omega, rfl, by omega, by omega, h5, hst.1, hst.2, rfl, HM.out.trans HF.out, HK.out.trans0 HK1.out⟩
        case measure => show n' - 4 < n'; omega
    · have hd : murEnd (murFold (key.drop k) x) = murL key := by rw [murL, HM.out]
      rcases (by omega : n' = 0 ∨ n' = 1 ∨ n' = 2 ∨ n' = 3) with rfl | rfl | rfl | rfl
      · rw [List.drop_eq_nil_of_le (by omega)] at hd
        have HD := Lib.hid hd
        clear hd hn hsl
        go_wp2
        go_ret
        exact ⟨ret_int32 HD.out, HK.out⟩
      · obtain ⟨b, off, rfl, hcc⟩ := hsl.2.2 (by omega)
        obtain ⟨y0, hy0⟩ : ∃ y, key[k]? = some y := ⟨_, List.getElem?_eq_getElem (by omega)⟩
        obtain ⟨b00, b01⟩ := hb y0 (List.mem_of_getElem? hy0)
        have hdd := drop1 hy0 (by omega)
        have c0 : wr.cell? ⟨b, off, none⟩ = some (.int .u8 y0) := hcc 0 _ (by rw [hdd]; rfl)
        rw [hdd] at hd
        have HD := Lib.hid hd
        clear hd hcc hy0 hdd hn hsl
        go_wp2
        go_ret
        exact ⟨ret_int32 HD.out, HK.out⟩
      · obtain ⟨b, off, rfl, hcc⟩ := hsl.2.2 (by omega)
        obtain ⟨y0, hy0⟩ : ∃ y, key[k]? = some y := ⟨_, List.getElem?_eq_getElem (by omega)⟩
        obtain ⟨y1, hy1⟩ : ∃ y, key[k + 1]? = some y := ⟨_, List.getElem?_eq_getElem (by omega)⟩
        obtain ⟨b00, b01⟩ := hb y0 (List.mem_of_getElem? hy0)
        obtain ⟨b10, b11⟩ := hb y1 (List.mem_of_getElem? hy1)
        have hdd := drop2 hy0 hy1 (by omega)
        have c0 : wr.cell? ⟨b, off, none⟩ = some (.int .u8 y0) := hcc 0 _ (by rw [hdd]; rfl)
        have c1 : wr.cell? ⟨b, off + 1, none⟩ = some (.int .u8 y1) := hcc 1 _ (by rw [hdd]; rfl)
        rw [hdd] at hd
        have HD := Lib.hid hd
        have X1 := xor_in x (y1 * 256) hx0 hx1 (by omega) (by omega)
        clear hd hcc hy0 hy1 hdd hn hsl
        go_wp2
        go_ret
        exact ⟨ret_int32 HD.out, HK.out⟩
      · obtain ⟨b, off, rfl, hcc⟩ := hsl.2.2 (by omega)
        obtain ⟨y0, hy0⟩ : ∃ y, key[k]? = some y := ⟨_, List.getElem?_eq_getElem (by omega)⟩
        obtain ⟨y1, hy1⟩ : ∃ y, key[k + 1]? = some y := ⟨_, List.getElem?_eq_getElem (by omega)⟩
        obtain ⟨y2, hy2⟩ : ∃ y, key[k + 2]? = some y := ⟨_, List.getElem?_eq_getElem (by omega)⟩
        obtain ⟨b00, b01⟩ := hb y0 (List.mem_of_getElem? hy0)
        obtain ⟨b10, b11⟩ := hb y1 (List.mem_of_getElem? hy1)
        obtain ⟨b20, b21⟩ := hb y2 (List.mem_of_getElem? hy2)
        have hdd := drop3 hy0 hy1 hy2 (by omega)
        have c0 : wr.cell? ⟨b, off, none⟩ = some (.int .u8 y0) := hcc 0 _ (by rw [hdd]; rfl)
        have c1 : wr.cell? ⟨b, off + 1, none⟩ = some (.int .u8 y1) := hcc 1 _ (by rw [hdd]; rfl)
        have c2 : wr.cell? ⟨b, off + 2, none⟩ = some (.int .u8 y2) := hcc 2 _ (by rw [hdd]; rfl)
        rw [hdd] at hd
        have HD := Lib.hid hd
        have X2 := xor_in x (y2 * 65536) hx0 hx1 (by omega) (by omega)
        have X1 := xor_in _ (y1 * 256) X2.1 X2.2 (by omega) (by omega)
        clear hd hcc hy0 hy1 hy2 hdd hn hsl
        go_wp2
        go_ret
        exact ⟨ret_int32 HD.out, HK.out⟩
end Go.Proofs.YtghgffhcdnmpnaaGreat
