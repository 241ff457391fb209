/-
  The sums of keys: FNV-1a, CRC-32 and murmur2, by the package and by the specification. Conditions: keys of 100 bytes at most.
-/
import Derived.Test.YtghgffhcdnmpnaaGreatZB0
import Derived.Test.YtghgffhcdnmpnaaGreatProg
import Derived.Laws.BitsAllLaws
import Derived.Outline
import Derived.Deep.QuietTactic
import Derived.BigQuiet
namespace Go.Proofs.YtghgffhcdnmpnaaGreat
open Go.RowKit
def bytesV (l : List Int) : List Value := l.map (Value.int .u8)
theorem bytesV_one (l : List Int) : ∀ u ∈ bytesV l, u.oneCell' = true := by
  intro u hu
  obtain ⟨i, _, rfl⟩ := List.mem_map.1 hu
  rfl
theorem bytesV_get {l : List Int} {k : Nat} {y : Int} (h : l[k]? = some y) : (bytesV l)[k]? = some (.int .u8 y) := by simp [bytesV, h]
theorem ret_int32 {k : IntKind} {a b : Int} (h : a = b) : Ending.returned (.int k a) = .returned (.int k b) := by rw [h]
theorem xor_in (a b : Int) (h1 : 0 ≤ a) (h2 : a ≤ 4294967295) (h3 : 0 ≤ b) (h4 : b ≤ 4294967295) : 0 ≤ bits .xor .u32 a b ∧ bits .xor .u32 a b ≤ 4294967295 := by
  rw [u32_xor a b h1 (by omega) h3 (by omega)]
  have : a.toNat ^^^ b.toNat < 2 ^ 32 := Nat.xor_lt_two_pow (by omega) (by omega)
  omega
/-! ### FNV-1a -/
def fnvStep (h c : Int) : Int := bits .xor .u32 h c * 16777619 % 4294967296
def fnvL (l : List Int) : Int := l.foldl fnvStep 2166136261
theorem foldl_snoc {α β : Type} (f : β → α → β) (b : β) {l : List α} {k : Nat} {y : α} (h : l[k]? = some y) : (l.take (k + 1)).foldl f b = f ((l.take k).foldl f b) y := by
  obtain ⟨hk, rfl⟩ := List.getElem?_eq_some_iff.1 h
  rw [List.take_succ_eq_append_getElem hk, List.foldl_append]
  rfl
theorem fnv_in : ∀ (l : List Int) (h : Int), 0 ≤ h → h ≤ 4294967295 → 0 ≤ l.foldl fnvStep h ∧ l.foldl fnvStep h ≤ 4294967295
  | [], h, h0, h1 => ⟨h0, h1⟩
  | c :: l, h, _, _ => fnv_in l _ (Int.emod_nonneg _ (by omega)) (by have := Int.emod_lt_of_pos (bits .xor .u32 h c * 16777619) (b := 4294967296) (by omega); unfold fnvStep; omega)
theorem fnvL_in (l : List Int) : 0 ≤ fnvL l ∧ fnvL l ≤ 4294967295 := fnv_in l _ (by omega) (by omega)
/-! ### CRC-32 -/
def crcBit (c : Int) : Int := if (bits .and .u32 c 1 == 1) = true then bits .xor .u32 (c / 2) 3988292384 else c / 2
def crcN : Nat → Int → Int
  | 0, c => c
  | n + 1, c => crcBit (crcN n c)
def crcStep (c b : Int) : Int := crcN 8 (bits .xor .u32 c b)
def crcL (l : List Int) : Int := l.foldl crcStep 4294967295
def inv32 (x : Int) : Int := bits .xor .u32 4294967295 x
theorem crcBit_in (c : Int) (h0 : 0 ≤ c) (h1 : c ≤ 4294967295) : 0 ≤ crcBit c ∧ crcBit c ≤ 4294967295 := by
  unfold crcBit
  split
  · exact xor_in _ _ (by omega) (by omega) (by omega) (by omega)
  · omega
theorem crcN_in (c : Int) (h0 : 0 ≤ c) (h1 : c ≤ 4294967295) : ∀ n, 0 ≤ crcN n c ∧ crcN n c ≤ 4294967295
  | 0 => ⟨h0, h1⟩
  | n + 1 => crcBit_in _ (crcN_in c h0 h1 n).1 (crcN_in c h0 h1 n).2
theorem crcBit_1 {c : Int} (h : (bits .and .u32 c 1 == 1) = true) : crcBit c = bits .xor .u32 (c / 2) 3988292384 := by unfold crcBit; rw [if_pos h]
theorem crcBit_0 {c : Int} (h : (bits .and .u32 c 1 == 1) = false) : crcBit c = c / 2 := by unfold crcBit; rw [h]; rfl
/-! ### The package's sum -/
def sumObj (s : Int) (k : Int) : Obj := .cells #[.int .u32 s, .int .i64 k] 163
theorem sumObj_cell {w : World} {g : Nat} {s k : Int} (h : w.heap[g]? = some (sumObj s k)) : w.cell? ⟨g, 0, none⟩ = some (.int .u32 s) ∧ w.cell? ⟨g, 1, none⟩ = some (.int .i64 k) ∧ w.frozen? ⟨g, 0, none⟩ = false := by
  unfold sumObj at h
  simp [World.cell?, World.frozen?, h]
theorem sumObj_set {w : World} {g : Nat} {s k t : Int} (h : w.heap[g]? = some (sumObj s k)) : (w.setCell ⟨g, 0, none⟩ (.int .u32 t)).heap[g]? = some (sumObj t k) := by
  unfold sumObj at *
  rw [heap_setCell_same _ _ _ _ _ _ h]
  rfl
theorem sum32_any (g : Nat) (s k : Int) (w : World) (h : w.heap[g]? = some (sumObj s k)) : Calls Tryz.prog 254 #[.pointer (some ⟨g, 0, none⟩)] w fun e w' => e = .returned (.int .u32 s) ∧ w = w' := by
  obtain ⟨h1, h2, h3⟩ := sumObj_cell h
  clear h
  go_enter Tryz.func254, Tryz.ntmps254
  go_wp2
  go_ret
  exact ⟨rfl, rfl⟩
theorem reset0_any (g : Nat) (s : Int) (w : World) (h : w.heap[g]? = some (sumObj s 0)) : Calls Tryz.prog 251 #[.pointer (some ⟨g, 0, none⟩)] w fun e w' => e = .returned (.tuple #[]) ∧ w'.heap[g]? = some (sumObj 2166136261 0) ∧ Kept [g] w w' := by
  have H := Lib.hid h
  obtain ⟨h1, h2, h3⟩ := sumObj_cell h
  have H4 := Lib.hid (sumObj_set (t := 0) h)
  obtain ⟨h5, h6, h7⟩ := sumObj_cell H4.out
  clear h
  go_enter Tryz.func251, Tryz.ntmps251
  go_wp2
  refine bodyPost_end (results_none rfl _ _ _) rfl ⟨rfl, sumObj_set H4.out, ((Kept.refl _ _).setCell (.inl (by simp)) _).setCell (.inl (by simp)) _⟩
theorem reset1_any (g : Nat) (s : Int) (w : World) (h : w.heap[g]? = some (sumObj s 1)) : Calls Tryz.prog 251 #[.pointer (some ⟨g, 0, none⟩)] w fun e w' => e = .returned (.tuple #[]) ∧ w'.heap[g]? = some (sumObj 0 1) ∧ Kept [g] w w' := by
  have H := Lib.hid h
  obtain ⟨h1, h2, h3⟩ := sumObj_cell h
  have H4 := Lib.hid (sumObj_set (t := 0) h)
  obtain ⟨h5, h6, h7⟩ := sumObj_cell H4.out
  clear h
  go_enter Tryz.func251, Tryz.ntmps251
  go_wp2
  refine bodyPost_end (results_none rfl _ _ _) rfl ⟨rfl, H4.out, (Kept.refl _ _).setCell (.inl (by simp)) _⟩
/-- Write of FNV-1a. -/
theorem write0_any (g : Nat) (s : Int) (A : Option Addr) (c : Nat) (key : List Int) (w : World) (hg : w.heap[g]? = some (sumObj s 0)) (h : SlIs w 1 A key.length (bytesV key)) (hA : ∀ a, A = some a → 0 < key.length → a.block ≠ g) (hl : key.length ≤ 100) (hb : ∀ x ∈ key, 0 ≤ x ∧ x ≤ 255) (hs : 0 ≤ s ∧ s ≤ 4294967295) :
    Calls Tryz.prog 255 #[.pointer (some ⟨g, 0, none⟩), .slice A key.length c] w fun e w' => e = .returned (.tuple #[.int .i64 key.length, .nilIface]) ∧ w'.heap[g]? = some (sumObj (key.foldl fnvStep s) 0) ∧ Kept [g] w w' := by
  have HG := Lib.hid hg
  clear hg
  go_enter Tryz.func255, Tryz.ntmps255
  go_wp2
  go_loopw [10] (fun i wr => ∃ k : Nat, k ≤ key.length ∧ i = .int .i64 k ∧ wr.heap[g]? = some (sumObj ((key.take k).foldl fnvStep s) 0) ∧ Kept [g] w wr) (fun i _ => key.length - (intOf i).toNat)
  case atStart => exact ⟨0, Nat.zero_le _, rfl, HG.out, Kept.refl _ _⟩
  case round =>
    obtain ⟨k, hk, rfl, hgr, hkr⟩ := hrel
    have hin := fnv_in (key.take k) s hs.1 hs.2
    obtain ⟨x, hx⟩ : ∃ x, (key.take k).foldl fnvStep s = x := ⟨_, rfl⟩
    rw [hx] at hgr hin
    obtain ⟨hx0, hx1⟩ := hin
    have HGR := Lib.hid hgr
    have HKR := Lib.hid hkr
    clear hgr hkr
    by_cases hlt : k < key.length
    · obtain ⟨b, off, rfl, hcc⟩ := h.2.2 (by omega)
      obtain ⟨y, hy⟩ : ∃ y, key[k]? = some y := ⟨_, List.getElem?_eq_getElem hlt⟩
      have hcell : wr.cell? ⟨b, off + k, none⟩ = some (.int .u8 y) := HKR.out.cell (hcc k _ (bytesV_get hy)) (by simpa using hA _ rfl (by omega))
      obtain ⟨hy0, hy1⟩ := hb y (List.mem_of_getElem? hy)
      have hfs := foldl_snoc fnvStep s hy
      rw [hx] at hfs
      have HY := Lib.hid hfs
      obtain ⟨h1, h2, h3⟩ := sumObj_cell HGR.out
      have H4 := Lib.hid (sumObj_set (t := bits .xor .u32 x y) HGR.out)
      obtain ⟨h5, h6, h7⟩ := sumObj_cell H4.out
      have hxy := xor_in x y hx0 hx1 hy0 (by omega)
      clear hcc h hy hfs hx
      go_wp2
      go_roundw
      case rel =>
        refine ⟨k + 1, by omega, by go_num, ?_, (HKR.out.setCell (.inl (by simp)) _).setCell (.inl (by simp)) _⟩
        rw [HY.out]
        exact sumObj_set H4.out
      case measure => simp [intOf]; omega
    · go_wp2
      refine bodyPost_ret (results_tmp2 rfl _ _ _) rfl ⟨rfl, ?_, HKR.out⟩
      rw [HGR.out, ← hx, List.take_of_length_le (by omega)]
theorem inv32_in (x : Int) (h0 : 0 ≤ x) (h1 : x ≤ 4294967295) : 0 ≤ inv32 x ∧ inv32 x ≤ 4294967295 := xor_in _ _ (by omega) (by omega) h0 h1
theorem inv32_inv (x : Int) (h0 : 0 ≤ x) (h1 : x ≤ 4294967295) : inv32 (inv32 x) = x := by
  unfold inv32
  rw [u32_xor 4294967295 x (by omega) (by omega) h0 (by omega)]
  rw [show (4294967295 : Int) = ((4294967295 : Nat) : Int) from rfl, u32_xor_nat 4294967295 _ (by decide) (Nat.xor_lt_two_pow (n := 32) (by decide) (by omega))]
  rw [← Nat.xor_assoc]
  simp
  omega
def crcO (x c : Int) : Int := inv32 (crcN 8 (bits .xor .u32 (inv32 x) c))
theorem crcO_in (x c : Int) (h0 : 0 ≤ x) (h1 : x ≤ 4294967295) (hc : 0 ≤ c ∧ c ≤ 255) : 0 ≤ crcO x c ∧ crcO x c ≤ 4294967295 := by
  have h2 := inv32_in x h0 h1
  have h3 := xor_in _ c h2.1 h2.2 hc.1 (by omega)
  have h4 := crcN_in _ h3.1 h3.2 8
  exact inv32_in _ h4.1 h4.2
theorem crcOs_in : ∀ (l : List Int) (h : Int), (∀ x ∈ l, 0 ≤ x ∧ x ≤ 255) → 0 ≤ h → h ≤ 4294967295 → 0 ≤ l.foldl crcO h ∧ l.foldl crcO h ≤ 4294967295
  | [], h, _, h0, h1 => ⟨h0, h1⟩
  | c :: l, h, hb, h0, h1 => by
    have := crcO_in h c h0 h1 (hb c (.head _))
    exact crcOs_in l (crcO h c) (fun x hx => hb x (.tail _ hx)) this.1 this.2
theorem crcO_step : ∀ (l : List Int) (h : Int), (∀ x ∈ l, 0 ≤ x ∧ x ≤ 255) → 0 ≤ h → h ≤ 4294967295 → l.foldl crcO (inv32 h) = inv32 (l.foldl crcStep h)
  | [], h, _, h0, h1 => rfl
  | c :: l, h, hb, h0, h1 => by
    have hc := hb c (.head _)
    have e : crcO (inv32 h) c = inv32 (crcStep h c) := by unfold crcO crcStep; rw [inv32_inv h h0 h1]
    have hx := xor_in h c h0 h1 hc.1 (by omega)
    have := crcN_in (bits .xor .u32 h c) hx.1 hx.2 8
    rw [List.foldl_cons, List.foldl_cons, e]
    exact crcO_step l (crcStep h c) (fun x hx => hb x (.tail _ hx)) this.1 this.2
theorem crcO_all (l : List Int) (hb : ∀ x ∈ l, 0 ≤ x ∧ x ≤ 255) : l.foldl crcO 0 = inv32 (crcL l) := by
  have := crcO_step l 4294967295 hb (by omega) (by omega)
  rw [show inv32 4294967295 = 0 by decide +kernel] at this
  exact this
set_option maxHeartbeats 400000 in
/-- Write of CRC-32. -/
theorem write1_any (g : Nat) (s : Int) (A : Option Addr) (c : Nat) (key : List Int) (w : World) (hg : w.heap[g]? = some (sumObj s 1)) (h : SlIs w 1 A key.length (bytesV key)) (hA : ∀ a, A = some a → 0 < key.length → a.block ≠ g) (hl : key.length ≤ 100) (hb : ∀ x ∈ key, 0 ≤ x ∧ x ≤ 255) (hs : 0 ≤ s ∧ s ≤ 4294967295) :
    Calls Tryz.prog 255 #[.pointer (some ⟨g, 0, none⟩), .slice A key.length c] w fun e w' => e = .returned (.tuple #[.int .i64 key.length, .nilIface]) ∧ w'.heap[g]? = some (sumObj (key.foldl crcO s) 1) ∧ Kept [g] w w' := by
  have HG := Lib.hid hg
  clear hg
  go_enter Tryz.func255, Tryz.ntmps255
  go_wp2
  go_loopw [10] (fun i wr => ∃ k : Nat, k ≤ key.length ∧ i = .int .i64 k ∧ wr.heap[g]? = some (sumObj ((key.take k).foldl crcO s) 1) ∧ Kept [g] w wr) (fun i _ => key.length - (intOf i).toNat)
  case atStart => exact ⟨0, Nat.zero_le _, rfl, HG.out, Kept.refl _ _⟩
  case round =>
    obtain ⟨k, hk, rfl, hgr, hkr⟩ := hrel
    have hin := crcOs_in (key.take k) s (fun x hx => hb x (List.mem_of_mem_take hx)) hs.1 hs.2
    obtain ⟨x, hx⟩ : ∃ x, (key.take k).foldl crcO s = x := ⟨_, rfl⟩
    rw [hx] at hgr hin
    obtain ⟨hx0, hx1⟩ := hin
    have HGR := Lib.hid hgr
    have HKR := Lib.hid hkr
    clear hgr hkr
    by_cases hlt : k < key.length
    · obtain ⟨b, off, rfl, hcc⟩ := h.2.2 (by omega)
      obtain ⟨y, hy⟩ : ∃ y, key[k]? = some y := ⟨_, List.getElem?_eq_getElem hlt⟩
      have hcell : wr.cell? ⟨b, off + k, none⟩ = some (.int .u8 y) := HKR.out.cell (hcc k _ (bytesV_get hy)) (by simpa using hA _ rfl (by omega))
      obtain ⟨hy0, hy1⟩ := hb y (List.mem_of_getElem? hy)
      have hfs := foldl_snoc crcO s hy
      rw [hx] at hfs
      have HY := Lib.hid hfs
      obtain ⟨h1, h2, h3⟩ := sumObj_cell HGR.out
      have hi := inv32_in x hx0 hx1
      have hxy := xor_in (inv32 x) y hi.1 hi.2 hy0 (by omega)
      have H4 := Lib.hid (sumObj_set (t := bits .xor .u32 (inv32 x) y) HGR.out)
      have hN := fun n => crcN_in _ hxy.1 hxy.2 n
      have HXX := Lib.hid hx
      clear hcc h hy hfs hx hi
      go_wp2
      obtain ⟨w0, hw0⟩ : ∃ w0 : World, w0 = wr := ⟨_, rfl⟩
      rw [← hw0] at HGR HKR H4 ⊢
      go_loopw [46] (fun i w1 => ∃ n : Nat, n ≤ 8 ∧ i = .int .i64 n ∧ w1.heap[g]? = some (sumObj (crcN n (bits .xor .u32 (inv32 x) y)) 1) ∧ Kept [g] w0 w1) (fun i _ => 8 - (intOf i).toNat)
      case atStart => exact ⟨0, by omega, rfl, H4.out, (Kept.refl _ _).setCell (.inl (by simp)) _⟩
      case round =>
        obtain ⟨n, hn, rfl, hgn, hkn⟩ := hrel
        obtain ⟨hn0, hn1⟩ := hN n
        obtain ⟨z, hz⟩ : ∃ z, crcN n (bits .xor .u32 (inv32 x) y) = z := ⟨_, rfl⟩
        rw [hz] at hgn hn0 hn1
        have HZ := Lib.hid hz
        have HGN := Lib.hid hgn
        have HKN := Lib.hid hkn
        obtain ⟨h8, h9, h10⟩ := sumObj_cell HGN.out
        clear hN hgn hkn hz h1 h2 h3
        by_cases hn8 : n < 8
        · go_wp2
          · have hb1 : (bits .and .u32 z 1 == 1) = true := by assumption
            go_roundw
            case rel => exact ⟨n + 1, by omega, by go_num, by rw [crcN, HZ.out, crcBit_1 hb1]; exact sumObj_set HGN.out, HKN.out.setCell (.inl (by simp)) _⟩
            case measure => simp [intOf]; omega
          · have hb1 : (bits .and .u32 z 1 == 1) = false := by assumption
            go_roundw
            case rel => exact ⟨n + 1, by omega, by go_num, by rw [crcN, HZ.out, crcBit_0 hb1]; exact sumObj_set HGN.out, HKN.out.setCell (.inl (by simp)) _⟩
            case measure => simp [intOf]; omega
        · obtain rfl : n = 8 := by omega
          go_wp2
          go_roundw
          case rel =>
            refine ⟨k + 1, by omega, by go_num, ?_, (HKR.out.trans HKN.out (fun x hx => .inl hx)).setCell (.inl (by simp)) _⟩
            rw [HY.out, crcO, HZ.out]
            exact sumObj_set HGN.out
          case measure => simp [intOf]; omega
    · go_wp2
      refine bodyPost_ret (results_tmp2 rfl _ _ _) rfl ⟨rfl, ?_, HKR.out⟩
      rw [HGR.out, ← hx, List.take_of_length_le (by omega)]
end Go.Proofs.YtghgffhcdnmpnaaGreat
/-
  murmur2, by the package and by the specification. Conditions: keys of 100 bytes at most.
-/
namespace Go.Proofs.YtghgffhcdnmpnaaGreat
open Go.RowKit
def le4 (x0 x1 x2 x3 : Int) : Int := bits .or .u32 (bits .or .u32 (bits .or .u32 x0 (x1 * 256)) (x2 * 65536)) (x3 * 16777216)
theorem or_in (a b : Int) (h1 : 0 ≤ a) (h2 : a ≤ 4294967295) (h3 : 0 ≤ b) (h4 : b ≤ 4294967295) : 0 ≤ bits .or .u32 a b ∧ bits .or .u32 a b ≤ 4294967295 := by
  rw [u32_or a b h1 (by omega) h3 (by omega)]
  have : a.toNat ||| b.toNat < 2 ^ 32 := Nat.or_lt_two_pow (by omega) (by omega)
  omega
def isB (x : Int) : Prop := 0 ≤ x ∧ x ≤ 255
theorem le4_in (x0 x1 x2 x3 : Int) (b0 : isB x0) (b1 : isB x1) (b2 : isB x2) (b3 : isB x3) : 0 ≤ le4 x0 x1 x2 x3 ∧ le4 x0 x1 x2 x3 ≤ 4294967295 := by
  unfold isB at *
  have h1 := or_in x0 (x1 * 256) (by omega) (by omega) (by omega) (by omega)
  have h2 := or_in _ (x2 * 65536) h1.1 h1.2 (by omega) (by omega)
  exact or_in _ (x3 * 16777216) h2.1 h2.2 (by omega) (by omega)
theorem le32_any (b off n c : Nat) (x0 x1 x2 x3 : Int) (w : World) (hn : 4 ≤ n) (h0 : w.cell? ⟨b, off, none⟩ = some (.int .u8 x0)) (h1 : w.cell? ⟨b, off + 1, none⟩ = some (.int .u8 x1)) (h2 : w.cell? ⟨b, off + 2, none⟩ = some (.int .u8 x2)) (h3 : w.cell? ⟨b, off + 3, none⟩ = some (.int .u8 x3))
    (b0 : isB x0) (b1 : isB x1) (b2 : isB x2) (b3 : isB x3) :
    Calls Tryz.prog 142 #[.agg #[], .slice (some ⟨b, off, none⟩) n c] w fun e w' => e = .returned (.int .u32 (le4 x0 x1 x2 x3)) ∧ Kept [] w w' := by
  obtain ⟨b00, b01⟩ := b0
  obtain ⟨b10, b11⟩ := b1
  obtain ⟨b20, b21⟩ := b2
  obtain ⟨b30, b31⟩ := b3
  have hlt : b < w.heap.size := World.block_lt_of_cell? w _ h0
  go_enter Tryz.func142, Tryz.ntmps142
  go_wp2
  go_quiet (fail)
  go_wp2
  go_ret
  exact ⟨rfl, ((Kept.refl _ _).alloc _).drewN nq⟩
/-! ### The plain sum -/
def mMul (x : Int) : Int := x * 1540483477 % 4294967296
def murK (k : Int) : Int := mMul (bits .xor .u32 (mMul k) (mMul k / 16777216))
def murStep (h k : Int) : Int := bits .xor .u32 (mMul h) (murK k)
def murTail : List Int → Int → Int
  | [a], h => mMul (bits .xor .u32 h a)
  | [a, b], h => mMul (bits .xor .u32 (bits .xor .u32 h (b * 256)) a)
  | [a, b, c], h => mMul (bits .xor .u32 (bits .xor .u32 (bits .xor .u32 h (c * 65536)) (b * 256)) a)
  | _, h => h
def murEnd (h : Int) : Int := bits .xor .u32 (mMul (bits .xor .u32 h (h / 8192))) (mMul (bits .xor .u32 h (h / 8192)) / 32768)
def murFold : List Int → Int → Int
  | a :: b :: c :: d :: r, h => murFold r (murStep h (le4 a b c d))
  | l, h => murTail l h
def murL (l : List Int) : Int := murEnd (murFold l (bits .xor .u32 2538058380 l.length))
theorem mMul_in (x : Int) : 0 ≤ mMul x ∧ mMul x ≤ 4294967295 := by unfold mMul; omega
theorem murK_in (k : Int) : 0 ≤ murK k ∧ murK k ≤ 4294967295 := mMul_in _
theorem murStep_in (h k : Int) : 0 ≤ murStep h k ∧ murStep h k ≤ 4294967295 := xor_in _ _ (mMul_in h).1 (mMul_in h).2 (murK_in k).1 (murK_in k).2
theorem drop4 {l : List Int} {i : Nat} {a b c d : Int} (h0 : l[i]? = some a) (h1 : l[i + 1]? = some b) (h2 : l[i + 2]? = some c) (h3 : l[i + 3]? = some d) : l.drop i = a :: b :: c :: d :: l.drop (i + 4) := by
  obtain ⟨k0, rfl⟩ := List.getElem?_eq_some_iff.1 h0
  obtain ⟨k1, rfl⟩ := List.getElem?_eq_some_iff.1 h1
  obtain ⟨k2, rfl⟩ := List.getElem?_eq_some_iff.1 h2
  obtain ⟨k3, rfl⟩ := List.getElem?_eq_some_iff.1 h3
  rw [List.drop_eq_getElem_cons k0, List.drop_eq_getElem_cons k1, List.drop_eq_getElem_cons k2, List.drop_eq_getElem_cons k3]
theorem drop1 {l : List Int} {i : Nat} {a : Int} (h0 : l[i]? = some a) (hl : l.length ≤ i + 1) : l.drop i = [a] := by
  obtain ⟨k0, rfl⟩ := List.getElem?_eq_some_iff.1 h0
  rw [List.drop_eq_getElem_cons k0, List.drop_eq_nil_of_le hl]
theorem drop2 {l : List Int} {i : Nat} {a b : Int} (h0 : l[i]? = some a) (h1 : l[i + 1]? = some b) (hl : l.length ≤ i + 2) : l.drop i = [a, b] := by
  obtain ⟨k0, rfl⟩ := List.getElem?_eq_some_iff.1 h0
  rw [List.drop_eq_getElem_cons k0, drop1 h1 hl]
theorem drop3 {l : List Int} {i : Nat} {a b c : Int} (h0 : l[i]? = some a) (h1 : l[i + 1]? = some b) (h2 : l[i + 2]? = some c) (hl : l.length ≤ i + 3) : l.drop i = [a, b, c] := by
  obtain ⟨k0, rfl⟩ := List.getElem?_eq_some_iff.1 h0
  rw [List.drop_eq_getElem_cons k0, drop2 h1 h2 hl]
theorem murFold_4 {l : List Int} {i : Nat} {a b c d h : Int} (h0 : l[i]? = some a) (h1 : l[i + 1]? = some b) (h2 : l[i + 2]? = some c) (h3 : l[i + 3]? = some d) : murFold (l.drop i) h = murFold (l.drop (i + 4)) (murStep h (le4 a b c d)) := by
  rw [drop4 h0 h1 h2 h3]; rfl
set_option maxHeartbeats 800000 in
/-- The package's murmur2. -/
theorem murmurC_any (A : Option Addr) (c : Nat) (key : List Int) (w : World) (h : SlIs w 1 A key.length (bytesV key)) (hc : key.length ≤ c) (hl : key.length ≤ 100) (hb : ∀ x ∈ key, isB x) :
    Calls Tryz.prog 141 #[.slice A key.length c] w fun e w' => e = .returned (.int .u32 (murL key)) ∧ Kept [] w w' := by
  have hx0 := xor_in 2538058380 key.length (by omega) (by omega) (by omega) (by omega)
  go_enter Tryz.func141, Tryz.ntmps141
  go_wp2
  go_loopw [0, 3] (fun v s wr => ∃ (k n' c' : Nat) (A' : Option Addr) (x : Int), k ≤ key.length ∧ v = .slice A' n' c' ∧ n' + k = key.length ∧ n' ≤ c' ∧ SlIs wr 1 A' n' (bytesV (key.drop k)) ∧ 0 ≤ x ∧ x ≤ 4294967295 ∧ s = .int .u32 x ∧ murFold key (bits .xor .u32 2538058380 key.length) = murFold (key.drop k) x ∧ Kept [] w wr) (fun v _ _ => match v with | .slice _ n _ => n | _ => 0)
  case atStart => exact ⟨0, _, _, A, _, Nat.zero_le _, rfl, by omega, hc, h, hx0.1, hx0.2, rfl, rfl, Kept.refl _ _⟩
  case round =>
    obtain ⟨k, n', c', A', x, hk, rfl, hn, hnc, hsl, hx0, hx1, rfl, hm, hkr⟩ := hrel
    have HM := Lib.hid hm
    have HK := Lib.hid hkr
    have HN := Lib.hid hn
    clear hm hkr h hc
    by_cases hlt : 4 ≤ n'
    · obtain ⟨b, off, rfl, hcc⟩ := hsl.2.2 (by omega)
      obtain ⟨y0, hy0⟩ : ∃ y, key[k]? = some y := ⟨_, List.getElem?_eq_getElem (by omega)⟩
      obtain ⟨y1, hy1⟩ : ∃ y, key[k + 1]? = some y := ⟨_, List.getElem?_eq_getElem (by omega)⟩
      obtain ⟨y2, hy2⟩ : ∃ y, key[k + 2]? = some y := ⟨_, List.getElem?_eq_getElem (by omega)⟩
      obtain ⟨y3, hy3⟩ : ∃ y, key[k + 3]? = some y := ⟨_, List.getElem?_eq_getElem (by omega)⟩
      have hd := drop4 hy0 hy1 hy2 hy3
      have c0 : wr.cell? ⟨b, off, none⟩ = some (.int .u8 y0) := hcc 0 _ (by rw [hd]; rfl)
      have c1 : wr.cell? ⟨b, off + 1, none⟩ = some (.int .u8 y1) := hcc 1 _ (by rw [hd]; rfl)
      have c2 : wr.cell? ⟨b, off + 2, none⟩ = some (.int .u8 y2) := hcc 2 _ (by rw [hd]; rfl)
      have c3 : wr.cell? ⟨b, off + 3, none⟩ = some (.int .u8 y3) := hcc 3 _ (by rw [hd]; rfl)
      have B0 := hb y0 (List.mem_of_getElem? hy0)
      have B1 := hb y1 (List.mem_of_getElem? hy1)
      have B2 := hb y2 (List.mem_of_getElem? hy2)
      have B3 := hb y3 (List.mem_of_getElem? hy3)
      obtain ⟨l0, l1⟩ := le4_in y0 y1 y2 y3 B0 B1 B2 B3
      have HF := Lib.hid (murFold_4 (h := x) hy0 hy1 hy2 hy3)
      have hle := le32_any b off n' c' y0 y1 y2 y3 wr hlt c0 c1 c2 c3 B0 B1 B2 B3
      obtain ⟨z, hz⟩ : ∃ z, le4 y0 y1 y2 y3 = z := ⟨_, rfl⟩
      rw [hz] at l0 l1 HF hle
      have HLE := Lib.hid hle
      have HSL : ∀ W, Kept [] wr W → SlIs W 1 (if c' = 4 then some ⟨b, off, none⟩ else some ⟨b, off + 4, none⟩) (n' - 4) (bytesV (key.drop (k + 4))) := fun W hk => by
        refine ⟨by rw [bytesV, List.length_map, List.length_drop]; omega, by omega, fun hpos => ?_⟩
        rw [if_neg (by omega)]
        refine ⟨b, off + 4, rfl, fun i v hv => ?_⟩
        have := hcc (i + 4) v (by rw [hd]; exact hv)
        rw [show off + (i + 4) = off + 4 + i by omega] at this
        exact hk.cell this (by simp)
      have HS := Lib.hid HSL
      clear hcc hy0 hy1 hy2 hy3 hd hsl hz c0 c1 c2 c3 hle HSL B0 B1 B2 B3
      have hst := murStep_in x z
      by_cases hc4 : c' = 4
      · subst hc4
        go_wp2_with (with_reducible refine HLE.out.mono ?_; rintro e w1 ⟨rfl, hk1⟩; have HK1 := Lib.hid hk1; clear hk1)
        go_roundw
        case rel =>
          have h5 := HS.out w1 HK1.out
          rw [if_pos trivial, show n' - 4 = 0 by omega] at h5
          exact ⟨k + 4, 0, 0, _, murStep x z, by omega, rfl, by omega, by omega, h5, hst.1, hst.2, rfl, HM.out.trans HF.out, HK.out.trans0 HK1.out⟩
        case measure => show 0 < n'; omega
      · go_wp2_with (with_reducible refine HLE.out.mono ?_; rintro e w1 ⟨rfl, hk1⟩; have HK1 := Lib.hid hk1; clear hk1)
        go_roundw
        case rel =>
          have h5 := HS.out w1 HK1.out
          rw [if_neg hc4] at h5
          exact ⟨k + 4, n' - 4, c' - 4, _, murStep x z, by omega, rfl, by omega, by omega, h5, hst.1, hst.2, rfl, HM.out.trans HF.out, HK.out.trans0 HK1.out⟩
        case measure => show n' - 4 < n'; omega
    · have hd : murEnd (murFold (key.drop k) x) = murL key := by rw [murL, HM.out]
      rcases (by omega : n' = 0 ∨ n' = 1 ∨ n' = 2 ∨ n' = 3) with rfl | rfl | rfl | rfl
      · rw [List.drop_eq_nil_of_le (by omega)] at hd
        have HD := Lib.hid hd
        clear hd hn hsl
        go_wp2
        go_ret
        exact ⟨ret_int32 HD.out, HK.out⟩
      · obtain ⟨b, off, rfl, hcc⟩ := hsl.2.2 (by omega)
        obtain ⟨y0, hy0⟩ : ∃ y, key[k]? = some y := ⟨_, List.getElem?_eq_getElem (by omega)⟩
        obtain ⟨b00, b01⟩ := hb y0 (List.mem_of_getElem? hy0)
        have hdd := drop1 hy0 (by omega)
        have c0 : wr.cell? ⟨b, off, none⟩ = some (.int .u8 y0) := hcc 0 _ (by rw [hdd]; rfl)
        rw [hdd] at hd
        have HD := Lib.hid hd
        clear hd hcc hy0 hdd hn hsl
        go_wp2
        go_ret
        exact ⟨ret_int32 HD.out, HK.out⟩
      · obtain ⟨b, off, rfl, hcc⟩ := hsl.2.2 (by omega)
        obtain ⟨y0, hy0⟩ : ∃ y, key[k]? = some y := ⟨_, List.getElem?_eq_getElem (by omega)⟩
        obtain ⟨y1, hy1⟩ : ∃ y, key[k + 1]? = some y := ⟨_, List.getElem?_eq_getElem (by omega)⟩
        obtain ⟨b00, b01⟩ := hb y0 (List.mem_of_getElem? hy0)
        obtain ⟨b10, b11⟩ := hb y1 (List.mem_of_getElem? hy1)
        have hdd := drop2 hy0 hy1 (by omega)
        have c0 : wr.cell? ⟨b, off, none⟩ = some (.int .u8 y0) := hcc 0 _ (by rw [hdd]; rfl)
        have c1 : wr.cell? ⟨b, off + 1, none⟩ = some (.int .u8 y1) := hcc 1 _ (by rw [hdd]; rfl)
        rw [hdd] at hd
        have HD := Lib.hid hd
        have X1 := xor_in x (y1 * 256) hx0 hx1 (by omega) (by omega)
        clear hd hcc hy0 hy1 hdd hn hsl
        go_wp2
        go_ret
        exact ⟨ret_int32 HD.out, HK.out⟩
      · obtain ⟨b, off, rfl, hcc⟩ := hsl.2.2 (by omega)
        obtain ⟨y0, hy0⟩ : ∃ y, key[k]? = some y := ⟨_, List.getElem?_eq_getElem (by omega)⟩
        obtain ⟨y1, hy1⟩ : ∃ y, key[k + 1]? = some y := ⟨_, List.getElem?_eq_getElem (by omega)⟩
        obtain ⟨y2, hy2⟩ : ∃ y, key[k + 2]? = some y := ⟨_, List.getElem?_eq_getElem (by omega)⟩
        obtain ⟨b00, b01⟩ := hb y0 (List.mem_of_getElem? hy0)
        obtain ⟨b10, b11⟩ := hb y1 (List.mem_of_getElem? hy1)
        obtain ⟨b20, b21⟩ := hb y2 (List.mem_of_getElem? hy2)
        have hdd := drop3 hy0 hy1 hy2 (by omega)
        have c0 : wr.cell? ⟨b, off, none⟩ = some (.int .u8 y0) := hcc 0 _ (by rw [hdd]; rfl)
        have c1 : wr.cell? ⟨b, off + 1, none⟩ = some (.int .u8 y1) := hcc 1 _ (by rw [hdd]; rfl)
        have c2 : wr.cell? ⟨b, off + 2, none⟩ = some (.int .u8 y2) := hcc 2 _ (by rw [hdd]; rfl)
        rw [hdd] at hd
        have HD := Lib.hid hd
        have X2 := xor_in x (y2 * 65536) hx0 hx1 (by omega) (by omega)
        have X1 := xor_in _ (y1 * 256) X2.1 X2.2 (by omega) (by omega)
        clear hd hcc hy0 hy1 hy2 hdd hn hsl
        go_wp2
        go_ret
        exact ⟨ret_int32 HD.out, HK.out⟩
end Go.Proofs.YtghgffhcdnmpnaaGreat
/-
  The partitions of keys, by the specification. Conditions: keys of 100 bytes at most, 1 to 2147483647 partitions.
-/
namespace Go.Proofs.YtghgffhcdnmpnaaGreat
open Go.RowKit
theorem wrap32_le {x : Int} (h0 : -2147483648 ≤ x) (h1 : x ≤ 2147483647) : wrap32 x = x := by
  unfold wrap32; omega
theorem and_i32 (x : Int) : bits .and .i32 x 2147483647 = x % 2147483648 := by
  have h : (BitVec.ofInt 32 x &&& BitVec.ofInt 32 2147483647).toNat = (x % 4294967296).toNat % 2147483648 := by
    rw [BitVec.toNat_and, BitVec.toNat_ofInt, BitVec.toNat_ofInt]
    have e : ((2147483647 : Int) % ((2 ^ 32 : Nat) : Int)).toNat = 2 ^ 31 - 1 := by decide
    rw [e, Nat.and_two_pow_sub_one_eq_mod]
    simp
  show IntKind.i32.wrap ((BitVec.ofInt 32 x &&& BitVec.ofInt 32 2147483647).toNat : Int) = _
  rw [h, IntWalk.i32_in _ (by omega)]
  omega
theorem and_u32 (x : Int) (h0 : 0 ≤ x) (h1 : x ≤ 4294967295) : bits .and .u32 x 2147483647 = x % 2147483648 := by
  rw [u32_and x 2147483647 h0 (by omega) (by omega) (by omega)]
  have e : (2147483647 : Int).toNat = 2 ^ 31 - 1 := by decide
  rw [e, Nat.and_two_pow_sub_one_eq_mod]
  omega
/-- What each kind of partitioner answers. -/
def ansOf (kind : Nat) (key : List Int) (part n : Int) : Int :=
  match kind with
  | 0 => ((wrap32 (fnvL key)).tmod n).natAbs
  | 1 => fnvL key % 2147483648 % n
  | 2 => inv32 (crcL key) % n
  | 3 => murL key % 2147483648 % n
  | _ => part
theorem murL_in (l : List Int) : 0 ≤ murL l ∧ murL l ≤ 4294967295 := by
  unfold murL murEnd
  generalize bits .xor .u32 (murFold l _) _ = y
  have := mMul_in y
  exact xor_in _ _ this.1 this.2 (by omega) (by omega)
theorem tmod_abs (a n : Int) (hn : 1 ≤ n) : (a.tmod n).natAbs < n := by
  rw [Int.natAbs_tmod]
  have := Nat.mod_lt a.natAbs (y := n.natAbs) (by omega)
  omega
theorem neg_wrap (r n : Int) (hn2 : n ≤ 2147483647) (h : (r.natAbs : Int) < n) : wrap32 (-r) = -r := wrap32_le (by omega) (by omega)
theorem and_mod (x n : Int) (h0 : 0 ≤ x) (h1 : x ≤ 4294967295) (_hn : 1 ≤ n) : (wrap32 (bits .and .u32 x 2147483647)).tmod n = x % 2147483648 % n := by
  rw [and_u32 x h0 h1, wrap32_le (by omega) (by omega), Int.tmod_eq_emod_of_nonneg (by omega)]
theorem mod_wrap (x n : Int) (hn : 1 ≤ n) (hn2 : n ≤ 2147483647) : wrap32 (x % n) = x % n := by
  have h1 := Int.emod_nonneg x (b := n) (by omega)
  have h2 := Int.emod_lt_of_pos x (b := n) (by omega)
  exact wrap32_le (by omega) (by omega)
def isKey (key : List Int) : Prop := key.length ≤ 100 ∧ ∀ x ∈ key, isB x
end Go.Proofs.YtghgffhcdnmpnaaGreat
