/-
  The sums of keys: FNV-1a, CRC-32 and murmur2, by the package and by the specification. Conditions: keys of 100 bytes at most.
-/
import Derived.Test.YtghgffhcdnmpnaaGreatB1
import Derived.Test.YtghgffhcdnmpnaaGreatR0
import Derived.Test.YtghgffhcdnmpnaaGreatProg
import Derived.Laws.BitsAllLaws
import Derived.Outline
namespace Go.Proofs.YtghgffhcdnmpnaaGreat
open Go.RowKit
def bytesV (l : List Int) : List Value := l.map (Value.int .u8)
theorem bytesV_one (l : List Int) : ∀ u ∈ bytesV l, u.oneCell' = true := by
  intro u hu
  obtain ⟨i, _, rfl⟩ := List.mem_map.1 hu
  rfl
theorem bytesV_get {l : List Int} {k : Nat} {y : Int} (h : l[k]? = some y) : (bytesV l)[k]? = some (.int .u8 y) := by simp [bytesV, h]
theorem ret_int32 {k : IntKind} {a b : Int} (h : a = b) : Ending.returned (.int k a) = .returned (.int k b) := by rw [h]
theorem xor_in (a b : Int) (h1 : 0 ≤ a) (h2 : a ≤ 4294967295) (h3 : 0 ≤ b) (h4 : b ≤ 4294967295) : 0 ≤ bits .xor .u32 a b ∧ bits .xor .u32 a b ≤ 4294967295 := by
  rw [u32_xor a b h1 (by omega) h3 (by omega)]
  have : a.toNat ^^^ b.toNat < 2 ^ 32 := Nat.xor_lt_two_pow (by omega) (by omega)
  omega
/-! ### FNV-1a -/
def fnvStep (h c : Int) : Int := bits .xor .u32 h c * 16777619 % 4294967296
def fnvL (l : List Int) : Int := l.foldl fnvStep 2166136261
theorem foldl_snoc {α β : Type} (f : β → α → β) (b : β) {l : List α} {k : Nat} {y : α} (h : l[k]? = some y) : (l.take (k + 1)).foldl f b = f ((l.take k).foldl f b) y := by
  obtain ⟨hk, rfl⟩ := List.getElem?_eq_some_iff.1 h
  rw [List.take_succ_eq_append_getElem hk, List.foldl_append]
  rfl
theorem fnv_in : ∀ (l : List Int) (h : Int), 0 ≤ h → h ≤ 4294967295 → 0 ≤ l.foldl fnvStep h ∧ l.foldl fnvStep h ≤ 4294967295
  | [], h, h0, h1 => ⟨h0, h1⟩
  | c :: l, h, _, _ => fnv_in l _ (Int.emod_nonneg _ (by omega)) (by have := Int.emod_lt_of_pos (bits .xor .u32 h c * 16777619) (b := 4294967296) (by omega); unfold fnvStep; omega)
theorem fnvL_in (l : List Int) : 0 ≤ fnvL l ∧ fnvL l ≤ 4294967295 := fnv_in l _ (by omega) (by omega)
theorem fnv_any (A : Option Addr) (c : Nat) (key : List Int) (w : World) (h : SlIs w 1 A key.length (bytesV key)) (hl : key.length ≤ 100) (hb : ∀ x ∈ key, 0 ≤ x ∧ x ≤ 255) :
    Calls Tryz.prog 32 #[.slice A key.length c] w fun e w' => e = .returned (.int .u32 (fnvL key)) ∧ w = w' := by
  go_enter Tryz.func32, Tryz.ntmps32
  go_wp2
  go_loop [3, 4] (fun s i => ∃ k : Nat, k ≤ key.length ∧ i = .int .i64 k ∧ s = .int .u32 (fnvL (key.take k))) (fun _ i => key.length - (intOf i).toNat)
  case atStart => exact ⟨0, Nat.zero_le _, rfl, rfl⟩
  case round =>
    obtain ⟨k, hk, rfl, rfl⟩ := hrel
    obtain ⟨hx0, hx1⟩ := fnvL_in (key.take k)
    by_cases hlt : k < key.length
    · obtain ⟨b, off, rfl, hcc⟩ := h.2.2 (by omega)
      obtain ⟨y, hy⟩ : ∃ y, key[k]? = some y := ⟨_, List.getElem?_eq_getElem hlt⟩
      have hcell : w.cell? ⟨b, off + k, none⟩ = some (.int .u8 y) := hcc k _ (bytesV_get hy)
      obtain ⟨hy0, hy1⟩ := hb y (List.mem_of_getElem? hy)
      have HY := Lib.hid (foldl_snoc fnvStep 2166136261 hy)
      clear hcc h hy
      go_wp2
      go_round
      case rel => exact ⟨k + 1, by omega, by go_num, by rw [show fnvL (key.take (k + 1)) = _ from HY.out]; rfl⟩
      case measure => simp [intOf]; omega
    · go_wp2
      go_ret
      exact ⟨ret_int32 (by rw [List.take_of_length_le (by omega)]), rfl⟩
/-! ### CRC-32 -/
def crcBit (c : Int) : Int := if (bits .and .u32 c 1 == 1) = true then bits .xor .u32 (c / 2) 3988292384 else c / 2
def crcN : Nat → Int → Int
  | 0, c => c
  | n + 1, c => crcBit (crcN n c)
def crcStep (c b : Int) : Int := crcN 8 (bits .xor .u32 c b)
def crcL (l : List Int) : Int := l.foldl crcStep 4294967295
def inv32 (x : Int) : Int := bits .xor .u32 4294967295 x
theorem crcBit_in (c : Int) (h0 : 0 ≤ c) (h1 : c ≤ 4294967295) : 0 ≤ crcBit c ∧ crcBit c ≤ 4294967295 := by
  unfold crcBit
  split
  · exact xor_in _ _ (by omega) (by omega) (by omega) (by omega)
  · omega
theorem crcN_in (c : Int) (h0 : 0 ≤ c) (h1 : c ≤ 4294967295) : ∀ n, 0 ≤ crcN n c ∧ crcN n c ≤ 4294967295
  | 0 => ⟨h0, h1⟩
  | n + 1 => crcBit_in _ (crcN_in c h0 h1 n).1 (crcN_in c h0 h1 n).2
theorem crc_in : ∀ (l : List Int) (h : Int), (∀ x ∈ l, 0 ≤ x ∧ x ≤ 255) → 0 ≤ h → h ≤ 4294967295 → 0 ≤ l.foldl crcStep h ∧ l.foldl crcStep h ≤ 4294967295
  | [], h, _, h0, h1 => ⟨h0, h1⟩
  | c :: l, h, hb, h0, h1 => by
    have hc := hb c (.head _)
    have hx := xor_in h c h0 h1 hc.1 (by omega)
    have := crcN_in (bits .xor .u32 h c) hx.1 hx.2 8
    exact crc_in l (crcStep h c) (fun x hx => hb x (.tail _ hx)) this.1 this.2
theorem crcBit_1 {c : Int} (h : (bits .and .u32 c 1 == 1) = true) : crcBit c = bits .xor .u32 (c / 2) 3988292384 := by unfold crcBit; rw [if_pos h]
theorem crcBit_0 {c : Int} (h : (bits .and .u32 c 1 == 1) = false) : crcBit c = c / 2 := by unfold crcBit; rw [h]; rfl
set_option maxHeartbeats 400000 in
theorem crc_any (A : Option Addr) (c : Nat) (key : List Int) (w : World) (h : SlIs w 1 A key.length (bytesV key)) (hl : key.length ≤ 100) (hb : ∀ x ∈ key, 0 ≤ x ∧ x ≤ 255) :
    Calls Tryz.prog 33 #[.slice A key.length c] w fun e w' => e = .returned (.int .u32 (inv32 (crcL key))) ∧ w = w' := by
  go_enter Tryz.func33, Tryz.ntmps33
  go_wp2
  go_loop [3, 4] (fun s i => ∃ k : Nat, k ≤ key.length ∧ i = .int .i64 k ∧ s = .int .u32 (crcL (key.take k))) (fun _ i => key.length - (intOf i).toNat)
  case atStart => exact ⟨0, Nat.zero_le _, rfl, rfl⟩
  case round =>
    obtain ⟨k, hk, rfl, rfl⟩ := hrel
    obtain ⟨hx0, hx1⟩ : 0 ≤ crcL (key.take k) ∧ crcL (key.take k) ≤ 4294967295 := crc_in _ _ (fun x hx => hb x (List.mem_of_mem_take hx)) (by omega) (by omega)
    by_cases hlt : k < key.length
    · obtain ⟨b, off, rfl, hcc⟩ := h.2.2 (by omega)
      obtain ⟨y, hy⟩ : ∃ y, key[k]? = some y := ⟨_, List.getElem?_eq_getElem hlt⟩
      have hcell : w.cell? ⟨b, off + k, none⟩ = some (.int .u8 y) := hcc k _ (bytesV_get hy)
      obtain ⟨hy0, hy1⟩ := hb y (List.mem_of_getElem? hy)
      have HY := Lib.hid (foldl_snoc crcStep 4294967295 hy)
      have hxx := xor_in (crcL (key.take k)) y hx0 hx1 hy0 (by omega)
      have hN := fun n => crcN_in _ hxx.1 hxx.2 n
      clear hcc h hy
      go_wp2
      go_loop [3, 5] (fun s i => ∃ n : Nat, n ≤ 8 ∧ i = .int .i64 n ∧ s = .int .u32 (crcN n (bits .xor .u32 (crcL (key.take k)) y))) (fun _ i => 8 - (intOf i).toNat)
      case atStart => exact ⟨0, by omega, rfl, rfl⟩
      case round =>
        obtain ⟨n, hn, rfl, rfl⟩ := hrel
        obtain ⟨hn0, hn1⟩ := hN n
        clear hN
        by_cases hn8 : n < 8
        · go_wp2
          · have hb1 : (bits .and .u32 (crcN n (bits .xor .u32 (crcL (key.take k)) y)) 1 == 1) = true := by assumption
            go_round
            case rel => exact ⟨n + 1, by omega, by go_num, by rw [crcN, crcBit_1 hb1]⟩
            case measure => simp [intOf]; omega
          · have hb1 : (bits .and .u32 (crcN n (bits .xor .u32 (crcL (key.take k)) y)) 1 == 1) = false := by assumption
            go_round
            case rel => exact ⟨n + 1, by omega, by go_num, by rw [crcN, crcBit_0 hb1]⟩
            case measure => simp [intOf]; omega
        · obtain rfl : n = 8 := by omega
          go_wp2
          go_round
          case rel => exact ⟨k + 1, by omega, by go_num, by rw [show crcL (key.take (k + 1)) = _ from HY.out]; rfl⟩
          case measure => simp [intOf]; omega
    · go_wp2
      go_ret
      exact ⟨ret_int32 (by rw [List.take_of_length_le (by omega)]; rfl), rfl⟩
/-! ### The package's sum -/
def sumObj (s : Int) (k : Int) : Obj := .cells #[.int .u32 s, .int .i64 k] 163
theorem sumObj_cell {w : World} {g : Nat} {s k : Int} (h : w.heap[g]? = some (sumObj s k)) : w.cell? ⟨g, 0, none⟩ = some (.int .u32 s) ∧ w.cell? ⟨g, 1, none⟩ = some (.int .i64 k) ∧ w.frozen? ⟨g, 0, none⟩ = false := by
  unfold sumObj at h
  simp [World.cell?, World.frozen?, h]
theorem sumObj_set {w : World} {g : Nat} {s k t : Int} (h : w.heap[g]? = some (sumObj s k)) : (w.setCell ⟨g, 0, none⟩ (.int .u32 t)).heap[g]? = some (sumObj t k) := by
  unfold sumObj at *
  rw [heap_setCell_same _ _ _ _ _ _ h]
  rfl
theorem sum32_any (g : Nat) (s k : Int) (w : World) (h : w.heap[g]? = some (sumObj s k)) : Calls Tryz.prog 254 #[.pointer (some ⟨g, 0, none⟩)] w fun e w' => e = .returned (.int .u32 s) ∧ w = w' := by
  obtain ⟨h1, h2, h3⟩ := sumObj_cell h
  clear h
  go_enter Tryz.func254, Tryz.ntmps254
  go_wp2
  go_ret
  exact ⟨rfl, rfl⟩
theorem reset0_any (g : Nat) (s : Int) (w : World) (h : w.heap[g]? = some (sumObj s 0)) : Calls Tryz.prog 251 #[.pointer (some ⟨g, 0, none⟩)] w fun e w' => e = .returned (.tuple #[]) ∧ w'.heap[g]? = some (sumObj 2166136261 0) ∧ Kept [g] w w' := by
  have H := Lib.hid h
  obtain ⟨h1, h2, h3⟩ := sumObj_cell h
  have H4 := Lib.hid (sumObj_set (t := 0) h)
  obtain ⟨h5, h6, h7⟩ := sumObj_cell H4.out
  clear h
  go_enter Tryz.func251, Tryz.ntmps251
  go_wp2
  refine bodyPost_end (results_none rfl _ _ _) rfl ⟨rfl, sumObj_set H4.out, ((Kept.refl _ _).setCell (.inl (by simp)) _).setCell (.inl (by simp)) _⟩
theorem reset1_any (g : Nat) (s : Int) (w : World) (h : w.heap[g]? = some (sumObj s 1)) : Calls Tryz.prog 251 #[.pointer (some ⟨g, 0, none⟩)] w fun e w' => e = .returned (.tuple #[]) ∧ w'.heap[g]? = some (sumObj 0 1) ∧ Kept [g] w w' := by
  have H := Lib.hid h
  obtain ⟨h1, h2, h3⟩ := sumObj_cell h
  have H4 := Lib.hid (sumObj_set (t := 0) h)
  obtain ⟨h5, h6, h7⟩ := sumObj_cell H4.out
  clear h
  go_enter Tryz.func251, Tryz.ntmps251
  go_wp2
  refine bodyPost_end (results_none rfl _ _ _) rfl ⟨rfl, H4.out, (Kept.refl _ _).setCell (.inl (by simp)) _⟩
/-- Write of FNV-1a. -/
theorem write0_any (g : Nat) (s : Int) (A : Option Addr) (c : Nat) (key : List Int) (w : World) (hg : w.heap[g]? = some (sumObj s 0)) (h : SlIs w 1 A key.length (bytesV key)) (hA : ∀ a, A = some a → 0 < key.length → a.block ≠ g) (hl : key.length ≤ 100) (hb : ∀ x ∈ key, 0 ≤ x ∧ x ≤ 255) (hs : 0 ≤ s ∧ s ≤ 4294967295) :
    Calls Tryz.prog 255 #[.pointer (some ⟨g, 0, none⟩), .slice A key.length c] w fun e w' => e = .returned (.tuple #[.int .i64 key.length, .nilIface]) ∧ w'.heap[g]? = some (sumObj (key.foldl fnvStep s) 0) ∧ Kept [g] w w' := by
  have HG := Lib.hid hg
  clear hg
  go_enter Tryz.func255, Tryz.ntmps255
  go_wp2
  go_loopw [10] (fun i wr => ∃ k : Nat, k ≤ key.length ∧ i = .int .i64 k ∧ wr.heap[g]? = some (sumObj ((key.take k).foldl fnvStep s) 0) ∧ Kept [g] w wr) (fun i _ => key.length - (intOf i).toNat)
  case atStart => exact ⟨0, Nat.zero_le _, rfl, HG.out, Kept.refl _ _⟩
  case round =>
    obtain ⟨k, hk, rfl, hgr, hkr⟩ := hrel
    have hin := fnv_in (key.take k) s hs.1 hs.2
    obtain ⟨x, hx⟩ : ∃ x, (key.take k).foldl fnvStep s = x := ⟨_, rfl⟩
    rw [hx] at hgr hin
    obtain ⟨hx0, hx1⟩ := hin
    have HGR := Lib.hid hgr
    have HKR := Lib.hid hkr
    clear hgr hkr
    by_cases hlt : k < key.length
    · obtain ⟨b, off, rfl, hcc⟩ := h.2.2 (by omega)
      obtain ⟨y, hy⟩ : ∃ y, key[k]? = some y := ⟨_, List.getElem?_eq_getElem hlt⟩
      have hcell : wr.cell? ⟨b, off + k, none⟩ = some (.int .u8 y) := HKR.out.cell (hcc k _ (bytesV_get hy)) (by simpa using hA _ rfl (by omega))
      obtain ⟨hy0, hy1⟩ := hb y (List.mem_of_getElem? hy)
      have hfs := foldl_snoc fnvStep s hy
      rw [hx] at hfs
      have HY := Lib.hid hfs
      obtain ⟨h1, h2, h3⟩ := sumObj_cell HGR.out
      have H4 := Lib.hid (sumObj_set (t := bits .xor .u32 x y) HGR.out)
      obtain ⟨h5, h6, h7⟩ := sumObj_cell H4.out
      have hxy := xor_in x y hx0 hx1 hy0 (by omega)
      clear hcc h hy hfs hx
      go_wp2
      go_roundw
      case rel =>
        refine ⟨k + 1, by omega, by go_num, ?_, (HKR.out.setCell (.inl (by simp)) _).setCell (.inl (by simp)) _⟩
        rw [HY.out]
        exact sumObj_set H4.out
      case measure => simp [intOf]; omega
    · go_wp2
      refine bodyPost_ret (results_tmp2 rfl _ _ _) rfl ⟨rfl, ?_, HKR.out⟩
      rw [HGR.out, ← hx, List.take_of_length_le (by omega)]
theorem inv32_in (x : Int) (h0 : 0 ≤ x) (h1 : x ≤ 4294967295) : 0 ≤ inv32 x ∧ inv32 x ≤ 4294967295 := xor_in _ _ (by omega) (by omega) h0 h1
theorem inv32_inv (x : Int) (h0 : 0 ≤ x) (h1 : x ≤ 4294967295) : inv32 (inv32 x) = x := by
  unfold inv32
  rw [u32_xor 4294967295 x (by omega) (by omega) h0 (by omega)]
  rw [show (4294967295 : Int) = ((4294967295 : Nat) : Int) from rfl, u32_xor_nat 4294967295 _ (by decide) (Nat.xor_lt_two_pow (n := 32) (by decide) (by omega))]
  rw [← Nat.xor_assoc]
  simp
  omega
def crcO (x c : Int) : Int := inv32 (crcN 8 (bits .xor .u32 (inv32 x) c))
theorem crcO_in (x c : Int) (h0 : 0 ≤ x) (h1 : x ≤ 4294967295) (hc : 0 ≤ c ∧ c ≤ 255) : 0 ≤ crcO x c ∧ crcO x c ≤ 4294967295 := by
  have h2 := inv32_in x h0 h1
  have h3 := xor_in _ c h2.1 h2.2 hc.1 (by omega)
  have h4 := crcN_in _ h3.1 h3.2 8
  exact inv32_in _ h4.1 h4.2
theorem crcOs_in : ∀ (l : List Int) (h : Int), (∀ x ∈ l, 0 ≤ x ∧ x ≤ 255) → 0 ≤ h → h ≤ 4294967295 → 0 ≤ l.foldl crcO h ∧ l.foldl crcO h ≤ 4294967295
  | [], h, _, h0, h1 => ⟨h0, h1⟩
  | c :: l, h, hb, h0, h1 => by
    have := crcO_in h c h0 h1 (hb c (.head _))
    exact crcOs_in l (crcO h c) (fun x hx => hb x (.tail _ hx)) this.1 this.2
theorem crcO_step : ∀ (l : List Int) (h : Int), (∀ x ∈ l, 0 ≤ x ∧ x ≤ 255) → 0 ≤ h → h ≤ 4294967295 → l.foldl crcO (inv32 h) = inv32 (l.foldl crcStep h)
  | [], h, _, h0, h1 => rfl
  | c :: l, h, hb, h0, h1 => by
    have hc := hb c (.head _)
    have e : crcO (inv32 h) c = inv32 (crcStep h c) := by unfold crcO crcStep; rw [inv32_inv h h0 h1]
    have hx := xor_in h c h0 h1 hc.1 (by omega)
    have := crcN_in (bits .xor .u32 h c) hx.1 hx.2 8
    rw [List.foldl_cons, List.foldl_cons, e]
    exact crcO_step l (crcStep h c) (fun x hx => hb x (.tail _ hx)) this.1 this.2
theorem crcO_all (l : List Int) (hb : ∀ x ∈ l, 0 ≤ x ∧ x ≤ 255) : l.foldl crcO 0 = inv32 (crcL l) := by
  have := crcO_step l 4294967295 hb (by omega) (by omega)
  rw [show inv32 4294967295 = 0 by decide +kernel] at this
  exact this
set_option maxHeartbeats 400000 in
/-- Write of CRC-32. -/
theorem write1_any (g : Nat) (s : Int) (A : Option Addr) (c : Nat) (key : List Int) (w : World) (hg : w.heap[g]? = some (sumObj s 1)) (h : SlIs w 1 A key.length (bytesV key)) (hA : ∀ a, A = some a → 0 < key.length → a.block ≠ g) (hl : key.length ≤ 100) (hb : ∀ x ∈ key, 0 ≤ x ∧ x ≤ 255) (hs : 0 ≤ s ∧ s ≤ 4294967295) :
    Calls Tryz.prog 255 #[.pointer (some ⟨g, 0, none⟩), .slice A key.length c] w fun e w' => e = .returned (.tuple #[.int .i64 key.length, .nilIface]) ∧ w'.heap[g]? = some (sumObj (key.foldl crcO s) 1) ∧ Kept [g] w w' := by
  have HG := Lib.hid hg
  clear hg
  go_enter Tryz.func255, Tryz.ntmps255
  go_wp2
  go_loopw [10] (fun i wr => ∃ k : Nat, k ≤ key.length ∧ i = .int .i64 k ∧ wr.heap[g]? = some (sumObj ((key.take k).foldl crcO s) 1) ∧ Kept [g] w wr) (fun i _ => key.length - (intOf i).toNat)
  case atStart => exact ⟨0, Nat.zero_le _, rfl, HG.out, Kept.refl _ _⟩
  case round =>
    obtain ⟨k, hk, rfl, hgr, hkr⟩ := hrel
    have hin := crcOs_in (key.take k) s (fun x hx => hb x (List.mem_of_mem_take hx)) hs.1 hs.2
    obtain ⟨x, hx⟩ : ∃ x, (key.take k).foldl crcO s = x := ⟨_, rfl⟩
    rw [hx] at hgr hin
    obtain ⟨hx0, hx1⟩ := hin
    have HGR := Lib.hid hgr
    have HKR := Lib.hid hkr
    clear hgr hkr
    by_cases hlt : k < key.length
    · obtain ⟨b, off, rfl, hcc⟩ := h.2.2 (by omega)
      obtain ⟨y, hy⟩ : ∃ y, key[k]? = some y := ⟨_, List.getElem?_eq_getElem hlt⟩
      have hcell : wr.cell? ⟨b, off + k, none⟩ = some (.int .u8 y) := HKR.out.cell (hcc k _ (bytesV_get hy)) (by simpa using hA _ rfl (by omega))
      obtain ⟨hy0, hy1⟩ := hb y (List.mem_of_getElem? hy)
      have hfs := foldl_snoc crcO s hy
      rw [hx] at hfs
      have HY := Lib.hid hfs
      obtain ⟨h1, h2, h3⟩ := sumObj_cell HGR.out
      have hi := inv32_in x hx0 hx1
      have hxy := xor_in (inv32 x) y hi.1 hi.2 hy0 (by omega)
      have H4 := Lib.hid (sumObj_set (t := bits .xor .u32 (inv32 x) y) HGR.out)
      have hN := fun n => crcN_in _ hxy.1 hxy.2 n
      have HXX := Lib.hid hx
      clear hcc h hy hfs hx hi
      go_wp2
      obtain ⟨w0, hw0⟩ : ∃ w0 : World, w0 = wr := ⟨_, rfl⟩
      rw [← hw0] at HGR HKR H4 ⊢
      go_loopw [46] (fun i w1 => ∃ n : Nat, n ≤ 8 ∧ i = .int .i64 n ∧ w1.heap[g]? = some (sumObj (crcN n (bits .xor .u32 (inv32 x) y)) 1) ∧ Kept [g] w0 w1) (fun i _ => 8 - (intOf i).toNat)
      case atStart => exact ⟨0, by omega, rfl, H4.out, (Kept.refl _ _).setCell (.inl (by simp)) _⟩
      case round =>
        obtain ⟨n, hn, rfl, hgn, hkn⟩ := hrel
        obtain ⟨hn0, hn1⟩ := hN n
        obtain ⟨z, hz⟩ : ∃ z, crcN n (bits .xor .u32 (inv32 x) y) = z := ⟨_, rfl⟩
        rw [hz] at hgn hn0 hn1
        have HZ := Lib.hid hz
        have HGN := Lib.hid hgn
        have HKN := Lib.hid hkn
        obtain ⟨h8, h9, h10⟩ := sumObj_cell HGN.out
        clear hN hgn hkn hz h1 h2 h3
        by_cases hn8 : n < 8
        · go_wp2
          · have hb1 : (bits .and .u32 z 1 == 1) = true := by assumption
            go_roundw
            case rel => exact ⟨n + 1, by omega, by go_num, by rw [crcN, HZ.out, crcBit_1 hb1]; exact sumObj_set HGN.out, HKN.out.setCell (.inl (by simp)) _⟩
            case measure => simp [intOf]; omega
          · have hb1 : (bits .and .u32 z 1 == 1) = false := by assumption
            go_roundw
            case rel => exact ⟨n + 1, by omega, by go_num, by rw [crcN, HZ.out, crcBit_0 hb1]; exact sumObj_set HGN.out, HKN.out.setCell (.inl (by simp)) _⟩
            case measure => simp [intOf]; omega
        · obtain rfl : n = 8 := by omega
          go_wp2
          go_roundw
          case rel =>
            refine ⟨k + 1, by omega, by go_num, ?_, (HKR.out.trans HKN.out (fun x hx => .inl hx)).setCell (.inl (by simp)) _⟩
            rw [HY.out, crcO, HZ.out]
            exact sumObj_set HGN.out
          case measure => simp [intOf]; omega
    · go_wp2
      refine bodyPost_ret (results_tmp2 rfl _ _ _) rfl ⟨rfl, ?_, HKR.out⟩
      rw [HGR.out, ← hx, List.take_of_length_le (by omega)]
end Go.Proofs.YtghgffhcdnmpnaaGreat
