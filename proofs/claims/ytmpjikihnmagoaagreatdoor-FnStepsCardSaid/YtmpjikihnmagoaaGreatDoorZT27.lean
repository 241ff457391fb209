/-
  What a decoder does, whichever of the two it is: each method reads the form at hand. Conditions: the bytes at hand begin with the form.
-/
import Derived.Test.YtmpjikihnmagoaaGreatDoorZT15
set_option maxRecDepth 100000
namespace Go.Proofs.YtmpjikihnmagoaaGreatDoor
open Go.RowKit
/-- A value has been read, and no error. -/
def DR (At : List UInt8 → List UInt8 → World → Prop) (S : List Nat) (v : Value) (pre rest : List UInt8) (w : World) (e : Ending) (w' : World) : Prop:=e = .returned (.tuple #[v, .nilIface]) ∧ At pre rest w' ∧ Kept S w w'
/-- Bytes have been read: they lie where all lie. -/
def DB (At : List UInt8 → List UInt8 → World → Prop) (S : List Nat) (raw : Nat) (f : List UInt8) (pre rest : List UInt8) (w : World) (e : Ending) (w' : World) : Prop:=∃ b cp, e = .returned (.tuple #[.slice (some b) f.length cp, .nilIface]) ∧ SlIs w' 1 (some b) f.length (Lib.byteCells f) ∧ b.block = raw ∧ At pre rest w' ∧ Kept S w w'
/-- A text has been read. -/
def DS (At : List UInt8 → List UInt8 → World → Prop) (S : List Nat) (s : ByteArray) (pre rest : List UInt8) (w : World) (e : Ending) (w' : World) : Prop:=∃ a, e = .returned (.tuple #[.pointer (some a), .nilIface]) ∧ w'.cell? a = some (.string s) ∧ At pre rest w' ∧ Kept S w w'
/-- A list has been read: a fresh one, or none. -/
def DL (At : List UInt8 → List UInt8 → World → Prop) (S : List Nat) (l : List Value) (pre rest : List UInt8) (w : World) (e : Ending) (w' : World) : Prop:=∃ A cp, e = .returned (.tuple #[.slice A l.length cp, .nilIface]) ∧ SlIs w' 1 A l.length l ∧ (∀ a, A = some a → w.heap.size ≤ a.block) ∧ At pre rest w' ∧ Kept S w w'
/-- A decoder. At: what has been read, and what is at hand; S: the blocks it writes; raw: the bytes' block; own: the blocks that At speaks of. -/
structure Dec (T : TypeId) (v : Value) (fl : Bool) (At : List UInt8 → List UInt8 → World → Prop) (S : List Nat) (raw : Nat) (own : Nat → Prop) : Prop where
 sub : ∀ s ∈ S, own s
 rawo : own raw
 keepg : ∀ pre rest w w' g, ¬ own g → At pre rest w → Kept [g] w w' → At pre rest w'
 keep : ∀ pre rest w w', At pre rest w → Kept [] w w' → At pre rest w'
 int8 : ∀ pre rest w x, fitsB 8 x → At pre (big 1 x ++ rest) w → Inv T v "getInt8" [] w (DR At S (.int .i8 x) (pre ++ big 1 x) rest w)
 int16 : ∀ pre rest w x, fitsB 16 x → At pre (big 2 x ++ rest) w → Inv T v "getInt16" [] w (DR At S (.int .i16 x) (pre ++ big 2 x) rest w)
 int32 : ∀ pre rest w x, fitsB 32 x → At pre (big 4 x ++ rest) w → Inv T v "getInt32" [] w (DR At S (.int .i32 x) (pre ++ big 4 x) rest w)
 int64 : ∀ pre rest w x, Num64 x → At pre (big 8 x ++ rest) w → Inv T v "getInt64" [] w (DR At S (.int .i64 x) (pre ++ big 8 x) rest w)
 uvarint : ∀ pre rest w (x : Nat), x < 18446744073709551616 → At pre (Lib.uvarint x ++ rest) w → Inv T v "getUVarint" [] w (DR At S (.int .u64 x) (pre ++ Lib.uvarint x) rest w)
 varint : ∀ pre rest w x, Num64 x → At pre (Lib.uvarint (Lib.zigzag x) ++ rest) w → Inv T v "getVarint" [] w (DR At S (.int .i64 x) (pre ++ Lib.uvarint (Lib.zigzag x)) rest w)
 float : ∀ pre rest w x, At pre (big 8 x ++ rest) w → Inv T v "getFloat64" [] w (DR At S (.float .f64 (u64 x)) (pre ++ big 8 x) rest w)
 bool : ∀ pre rest w (b : Bool), At pre (big 1 (if b then 1 else 0) ++ rest) w → Inv T v "getBool" [] w (DR At S (.bool b) (pre ++ big 1 (if b then 1 else 0)) rest w)
 arrlen : ∀ pre rest w (x : Int), 0 ≤ x → x ≤ rest.length → x ≤ 1000 → At pre (lenB fl x 4 ++ rest) w → Inv T v "getArrayLength" [] w (DR At S (.int .i64 x) (pre ++ lenB fl x 4) rest w)
 text : ∀ pre rest w (s : ByteArray), s.size ≤ 32767 → At pre (textB fl s ++ rest) w → Inv T v "getString" [] w (DR At S (.string s) (pre ++ textB fl s) rest w)
 nullText : ∀ pre rest w, At pre (lenB fl (-1) 2 ++ rest) w → Inv T v "getNullableString" [] w (DR At S (.pointer none) (pre ++ lenB fl (-1) 2) rest w)
 someText : ∀ pre rest w (s : ByteArray), s.size ≤ 32767 → At pre (textB fl s ++ rest) w → Inv T v "getNullableString" [] w (DS At S s (pre ++ textB fl s) rest w)
 bytes : ∀ pre rest w (f : List UInt8), f.length ≤ 300 → At pre (lenB fl (f.length : Int) 4 ++ f ++ rest) w → Inv T v "getBytes" [] w (DB At S raw f (pre ++ (lenB fl (f.length : Int) 4 ++ f)) rest w)
 nil : ∀ pre rest w, At pre (lenB fl (-1) 4 ++ rest) w → Inv T v "getBytes" [] w (DR At S (.slice none 0 0) (pre ++ lenB fl (-1) 4) rest w)
 varbytes : ∀ pre rest w (f : List UInt8), f.length ≤ 300 → At pre (Lib.uvarint (Lib.zigzag (f.length : Int)) ++ f ++ rest) w → Inv T v "getVarintBytes" [] w (DB At S raw f (pre ++ (Lib.uvarint (Lib.zigzag (f.length : Int)) ++ f)) rest w)
 varnil : ∀ pre rest w, At pre (Lib.uvarint (Lib.zigzag (-1)) ++ rest) w → Inv T v "getVarintBytes" [] w (DR At S (.slice none 0 0) (pre ++ Lib.uvarint (Lib.zigzag (-1))) rest w)
 texts : ∀ pre rest w (l : List ByteArray), l.length ≤ 10 → (∀ s ∈ l, s.size ≤ 60) → At pre (lenB fl (l.length : Int) 4 ++ (l.flatMap (textB fl) ++ rest)) w → Inv T v "getStringArray" [] w (DL At S (strs l) (pre ++ (lenB fl (l.length : Int) 4 ++ l.flatMap (textB fl))) rest w)
 i32s : ∀ pre rest w (l : List Int), l.length ≤ 10 → (∀ x ∈ l, Num32 x) → At pre (lenB fl (l.length : Int) 4 ++ (l.flatMap (big 4) ++ rest)) w → Inv T v "getInt32Array" [] w (DL At S (l.map (Value.int .i32)) (pre ++ (lenB fl (l.length : Int) 4 ++ l.flatMap (big 4))) rest w)
 i64s : ∀ pre rest w (l : List Int), l.length ≤ 10 → (∀ x ∈ l, Num64 x) → At pre (lenB fl (l.length : Int) 4 ++ (l.flatMap (big 8) ++ rest)) w → Inv T v "getInt64Array" [] w (DL At S (l.map (Value.int .i64)) (pre ++ (lenB fl (l.length : Int) 4 ++ l.flatMap (big 8))) rest w)
 raw : ∀ pre rest w (f : List UInt8), At pre (f ++ rest) w → Inv T v "getRawBytes" [.int .i64 f.length] w (DB At S raw f (pre ++ f) rest w)
 left : ∀ pre rest w, At pre rest w → Inv T v "remaining" [] w (fun e w' => e = .returned (.int .i64 rest.length) ∧ Kept [] w w')
theorem lenB_true (m n : Nat) (h : m ≤ 1000000) : lenB true (m : Int) n = Lib.uvarint (m + 1):=by
 unfold lenB
 rw [if_pos rfl, u64_succ h]
theorem decB_db {At : List UInt8 → List UInt8 → World → Prop} {p c : Nat} {aa : Addr} {st : Value} {f pre rest : List UInt8} {w w' : World} {e : Ending} (h : DecB p (some aa) c st f pre rest w e w') (hAt : DecAt p (some aa) c st pre rest w' → Kept [p] w w' → At pre rest w') : DB At [p] aa.block f pre rest w e w':=by
 obtain ⟨b, cp, h1, h2, h3, h4, h5⟩:=h
 exact ⟨b, cp, h1, h2, h3.1 aa rfl, hAt h4 h5, h5⟩
theorem decL_dl {At : List UInt8 → List UInt8 → World → Prop} {p c : Nat} {aa : Addr} {st : Value} {l : List Value} {pre rest : List UInt8} {w w' : World} {e : Ending} (h : DecL p (some aa) c st l pre rest w e w') (hAt : DecAt p (some aa) c st pre rest w' → Kept [p] w w' → At pre rest w') : DL At [p] l pre rest w e w':=by
 obtain ⟨z, h1, h2, h3, h4, h5⟩:=h
 exact ⟨_, _, h1, h2, fun a ha => by cases ha; exact h3, hAt h4 h5, h5⟩
theorem decR_dl {At : List UInt8 → List UInt8 → World → Prop} {p c : Nat} {aa : Addr} {st : Value} {pre rest : List UInt8} {w w' : World} {e : Ending} (h : DecR p (some aa) c st (.slice none 0 0) pre rest w e w') (hAt : DecAt p (some aa) c st pre rest w' → Kept [p] w w' → At pre rest w') : DL At [p] [] pre rest w e w':=by
 obtain ⟨h1, h4, h5⟩:=h
 exact ⟨none, 0, h1, SlIs.nil _ _ _, (fun a ha => by cases ha), hAt h4 h5, h5⟩
theorem textB_ge (fl : Bool) (s : ByteArray) : 1 ≤ (textB fl s).length:=by
 unfold textB
 have h:=lenB_pos fl (s.size : Int) (n:=2) (by decide)
 rw [List.length_append]
 omega
theorem flat_ge (fl : Bool) : ∀ l : List ByteArray, l.length ≤ (l.flatMap (textB fl)).length
 | [] => by simp
 | x :: l => by
  have h1:=textB_ge fl x
  have h2:=flat_ge fl l
  rw [List.flatMap_cons, List.length_append, List.length_cons]
  omega
theorem dec_real (p : Nat) (aa : Addr) (c : Nat) (st : Value) : Dec 148 (.pointer (some ⟨p, 0, none⟩)) false (DecAt p (some aa) c st) [p] aa.block (fun g => g = p ∨ g = aa.block) where
 sub s hs:=by simp at hs; exact .inl hs
 rawo:=.inr rfl
 keepg _ _ _ _ g hg h k:=by
  simp only [not_or] at hg
  exact ⟨k.heap h.1 (by simp; exact fun e => hg.1 e.symm), h.2.1.kept k (fun a e => by cases e; simp; exact fun e => hg.2 e.symm), h.2.2⟩
 keep _ _ _ _ h k:=h.keep0 k
 int8 pre rest w x hx h:=⟨_, _, (by kernel_rfl), fd_getInt8 _ w, fda_getInt8 _ w, dec_int8 p c _ st pre rest w x hx h⟩
 int16 pre rest w x hx h:=⟨_, _, (by kernel_rfl), fd_getInt16 _ w, fda_getInt16 _ w, dec_int16 p c _ st pre rest w x hx h⟩
 int32 pre rest w x hx h:=⟨_, _, (by kernel_rfl), fd_getInt32 _ w, fda_getInt32 _ w, dec_int32 p c _ st pre rest w x hx h⟩
 int64 pre rest w x hx h:=⟨_, _, (by kernel_rfl), fd_getInt64 _ w, fda_getInt64 _ w, dec_int64 p c _ st pre rest w x hx.1 hx.2 h⟩
 uvarint pre rest w x hx h:=⟨_, _, (by kernel_rfl), fd_getUVarint _ w, fda_getUVarint _ w, dec_uvarint p c _ st pre rest w x hx h⟩
 varint pre rest w x hx h:=⟨_, _, (by kernel_rfl), fd_getVarint _ w, fda_getVarint _ w, dec_varint p c _ st pre rest w x hx.1 hx.2 h⟩
 float pre rest w x h:=⟨_, _, (by kernel_rfl), fd_getFloat64 _ w, fda_getFloat64 _ w, dec_float p c _ st pre rest w x h⟩
 bool pre rest w b h:=⟨_, _, (by kernel_rfl), fd_getBool _ w, fda_getBool _ w, by cases b with | true => exact dec_bool_true p c _ st pre rest w h | false => exact dec_bool_false p c _ st pre rest w h⟩
 arrlen pre rest w x h0 h1 h2 h:=⟨_, _, (by kernel_rfl), fd_getArrayLength _ w, fda_getArrayLength _ w, dec_arrlen p c _ st pre rest w x h0 h1 (by omega) h⟩
 text pre rest w s hs h:=⟨_, _, (by kernel_rfl), fd_getString _ w, fda_getString _ w, dec_string p c _ st pre rest w s hs h⟩
 nullText pre rest w h:=⟨_, _, (by kernel_rfl), fd_getNullableString _ w, fda_getNullableString _ w, dec_nullstr p c _ st pre rest w h⟩
 someText pre rest w s hs h:=⟨_, _, (by kernel_rfl), fd_getNullableString _ w, fda_getNullableString _ w, dec_somestr p c _ st pre rest w s hs h⟩
 bytes pre rest w f hf h:=⟨_, _, (by kernel_rfl), fd_getBytes _ w, fda_getBytes _ w, (dec_bytes p c _ st pre f rest w (by omega) h).mono fun _ _ hp => decB_db hp (fun hd _ => hd)⟩
 nil pre rest w h:=⟨_, _, (by kernel_rfl), fd_getBytes _ w, fda_getBytes _ w, dec_nil p c _ st pre rest w h⟩
 varbytes pre rest w f hf h:=⟨_, _, (by kernel_rfl), fd_getVarintBytes _ w, fda_getVarintBytes _ w, (dec_varbytes p c _ st pre f rest w (by omega) h).mono fun _ _ hp => decB_db hp (fun hd _ => hd)⟩
 varnil pre rest w h:=⟨_, _, (by kernel_rfl), fd_getVarintBytes _ w, fda_getVarintBytes _ w, dec_varnil p c _ st pre rest w h⟩
 texts pre rest w l hl hs h:=⟨_, _, (by kernel_rfl), fd_getStringArray _ w, fda_getStringArray _ w, by
  by_cases h0 : 0 < l.length
  ·exact (dec_strarr p c _ st pre rest w l hl h0 (fun s hs' => by have:=hs s hs'; omega) (by rw [List.length_append]; have:=flat_ge false l; omega) h).mono fun _ _ hp => decL_dl hp (fun hd _ => hd)
  ·cases l with
   | nil => exact (dec_strnil p c _ st pre rest w h).mono fun _ _ hp => decR_dl hp (fun hd _ => hd)
   | cons x l => simp at h0⟩
 i32s pre rest w l hl hs h:=⟨_, _, (by kernel_rfl), fd_getInt32Array _ w, fda_getInt32Array _ w, (dec_i32arr p c _ st pre rest w l hl hs h).mono fun _ _ hp => decL_dl hp (fun hd _ => hd)⟩
 i64s pre rest w l hl hs h:=⟨_, _, (by kernel_rfl), fd_getInt64Array _ w, fda_getInt64Array _ w, by
  by_cases h0 : 0 < l.length
  ·exact (dec_i64arr p c _ st pre rest w l hl h0 hs h).mono fun _ _ hp => decL_dl hp (fun hd _ => hd)
  ·cases l with
   | nil => exact (dec_i64nil p c _ st pre rest w h).mono fun _ _ hp => decR_dl hp (fun hd _ => hd)
   | cons x l => simp at h0⟩
 raw pre rest w f h:=⟨_, _, (by kernel_rfl), fd_getRawBytes _ w, fda_getRawBytes _ w, (dec_raw p c aa st pre f rest w h).mono fun _ _ hp => decB_db hp (fun hd _ => hd)⟩
 left pre rest w h:=⟨_, _, (by kernel_rfl), fd_remaining _ w, fda_remaining _ w, dec_remaining p c _ st pre rest w h⟩
theorem dec_flex (q : Nat) (p : Nat) (aa : Addr) (c : Nat) (st : Value) : Dec 154 (.pointer (some ⟨q, 0, none⟩)) true (fun pre rest w => FlexAt 156 q p w ∧ DecAt p (some aa) c st pre rest w) [p] aa.block (fun g => g = p ∨ g = q ∨ g = aa.block) where
 sub s hs:=by simp at hs; exact .inl hs
 rawo:=.inr (.inr rfl)
 keepg _ _ _ _ g hg h k:=by
  simp only [not_or] at hg
  exact ⟨⟨k.heap h.1.1 (by simp; exact fun e => hg.2.1 e.symm), h.1.2⟩, k.heap h.2.1 (by simp; exact fun e => hg.1 e.symm), h.2.2.1.kept k (fun a e => by cases e; simp; exact fun e => hg.2.2 e.symm), h.2.2.2⟩
 keep _ _ _ _ h k:=⟨h.1.keep0 k, h.2.keep0 k⟩
 int8 pre rest w x hx h:=⟨_, _, (by kernel_rfl), fdf_getInt8 h.1.cell, fdfa_getInt8 _ w, (dec_int8 p c _ st pre rest w x hx h.2).mono fun _ _ hp => ⟨hp.1, ⟨h.1.keepp hp.2.2, hp.2.1⟩, hp.2.2⟩⟩
 int16 pre rest w x hx h:=⟨_, _, (by kernel_rfl), fdf_getInt16 h.1.cell, fdfa_getInt16 _ w, (dec_int16 p c _ st pre rest w x hx h.2).mono fun _ _ hp => ⟨hp.1, ⟨h.1.keepp hp.2.2, hp.2.1⟩, hp.2.2⟩⟩
 int32 pre rest w x hx h:=⟨_, _, (by kernel_rfl), fdf_getInt32 h.1.cell, fdfa_getInt32 _ w, (dec_int32 p c _ st pre rest w x hx h.2).mono fun _ _ hp => ⟨hp.1, ⟨h.1.keepp hp.2.2, hp.2.1⟩, hp.2.2⟩⟩
 int64 pre rest w x hx h:=⟨_, _, (by kernel_rfl), fdf_getInt64 h.1.cell, fdfa_getInt64 _ w, (dec_int64 p c _ st pre rest w x hx.1 hx.2 h.2).mono fun _ _ hp => ⟨hp.1, ⟨h.1.keepp hp.2.2, hp.2.1⟩, hp.2.2⟩⟩
 uvarint pre rest w x hx h:=⟨_, _, (by kernel_rfl), fdf_getUVarint h.1.cell, fdfa_getUVarint _ w, (dec_uvarint p c _ st pre rest w x hx h.2).mono fun _ _ hp => ⟨hp.1, ⟨h.1.keepp hp.2.2, hp.2.1⟩, hp.2.2⟩⟩
 varint pre rest w x hx h:=⟨_, _, (by kernel_rfl), fdf_getVarint h.1.cell, fdfa_getVarint _ w, (dec_varint p c _ st pre rest w x hx.1 hx.2 h.2).mono fun _ _ hp => ⟨hp.1, ⟨h.1.keepp hp.2.2, hp.2.1⟩, hp.2.2⟩⟩
 float pre rest w x h:=⟨_, _, (by kernel_rfl), fdf_getFloat64 h.1.cell, fdfa_getFloat64 _ w, (dec_float p c _ st pre rest w x h.2).mono fun _ _ hp => ⟨hp.1, ⟨h.1.keepp hp.2.2, hp.2.1⟩, hp.2.2⟩⟩
 bool pre rest w b h:=⟨_, _, (by kernel_rfl), fdf_getBool h.1.cell, fdfa_getBool _ w, by cases b with | true => exact (dec_bool_true p c _ st pre rest w h.2).mono fun _ _ hp => ⟨hp.1, ⟨h.1.keepp hp.2.2, hp.2.1⟩, hp.2.2⟩ | false => exact (dec_bool_false p c _ st pre rest w h.2).mono fun _ _ hp => ⟨hp.1, ⟨h.1.keepp hp.2.2, hp.2.1⟩, hp.2.2⟩⟩
 arrlen pre rest w x h0 h1 h2 h:=⟨_, _, (by kernel_rfl), fdf_getArrayLength _ w, fdfa_getArrayLength _ w, by
  obtain ⟨m, rfl⟩:=Int.eq_ofNat_of_zero_le h0
  have h3:=h.2
  rw [lenB_true m 4 (by omega)] at h3 ⊢
  exact (df_arrlen q p c _ st pre rest w h.1 m (by omega) h3).mono fun _ _ hp => ⟨hp.1, ⟨h.1.keepp hp.2.2, hp.2.1⟩, hp.2.2⟩⟩
 text pre rest w s hs h:=⟨_, _, (by kernel_rfl), fdf_getString _ w, fdfa_getString _ w, by
  have h3:=h.2
  rw [textB_true' hs] at h3 ⊢
  exact (df_string q p c _ st pre rest w h.1 s hs h3).mono fun _ _ hp => ⟨hp.1, ⟨h.1.keepp hp.2.2, hp.2.1⟩, hp.2.2⟩⟩
 nullText pre rest w h:=⟨_, _, (by kernel_rfl), fdf_getNullableString _ w, fdfa_getNullableString _ w, (df_nullstr q p c _ st pre rest w h.1 h.2).mono fun _ _ hp => ⟨hp.1, ⟨h.1.keepp hp.2.2, hp.2.1⟩, hp.2.2⟩⟩
 someText pre rest w s hs h:=⟨_, _, (by kernel_rfl), fdf_getNullableString _ w, fdfa_getNullableString _ w, by
  have h3:=h.2
  rw [textB_true' hs] at h3 ⊢
  exact (df_somestr q p c _ st pre rest w h.1 s hs h3).mono fun _ _ hp => by
   obtain ⟨a, h4, h5, h6, h7⟩:=hp
   exact ⟨a, h4, h5, ⟨h.1.keepp h7, h6⟩, h7⟩⟩
 bytes pre rest w f hf h:=⟨_, _, (by kernel_rfl), fdf_getBytes _ w, fdfa_getBytes _ w, by
  have h3:=h.2
  rw [lenB_true f.length 4 (by omega)] at h3 ⊢
  exact (df_bytes q p c _ st pre f rest w h.1 h3).mono fun _ _ hp => decB_db hp (fun hd hk => ⟨h.1.keepp hk, hd⟩)⟩
 nil pre rest w h:=⟨_, _, (by kernel_rfl), fdf_getBytes _ w, fdfa_getBytes _ w, (df_nil q p c _ st pre rest w h.1 h.2).mono fun _ _ hp => ⟨hp.1, ⟨h.1.keepp hp.2.2, hp.2.1⟩, hp.2.2⟩⟩
 varbytes pre rest w f hf h:=⟨_, _, (by kernel_rfl), fdf_getVarintBytes h.1.cell, fdfa_getVarintBytes _ w, (dec_varbytes p c _ st pre f rest w (by omega) h.2).mono fun _ _ hp => decB_db hp (fun hd hk => ⟨h.1.keepp hk, hd⟩)⟩
 varnil pre rest w h:=⟨_, _, (by kernel_rfl), fdf_getVarintBytes h.1.cell, fdfa_getVarintBytes _ w, (dec_varnil p c _ st pre rest w h.2).mono fun _ _ hp => ⟨hp.1, ⟨h.1.keepp hp.2.2, hp.2.1⟩, hp.2.2⟩⟩
 texts pre rest w l hl hs h:=⟨_, _, (by kernel_rfl), fdf_getStringArray _ w, fdfa_getStringArray _ w, by
  have h3:=h.2
  rw [lenB_true l.length 4 (by omega)] at h3 ⊢
  by_cases h0 : 0 < l.length
  ·exact (df_strarr q p c _ st pre rest w h.1 l hl h0 (fun s hs' => by have:=hs s hs'; omega) (by rw [List.length_append]; have:=flat_ge true l; omega) h3).mono fun _ _ hp => decL_dl hp (fun hd hk => ⟨h.1.keepp hk, hd⟩)
  ·cases l with
   | nil => exact (df_strnil q p c _ st pre rest w h.1 h3).mono fun _ _ hp => by have h4:=decR_dl (At:=(fun pre rest w => FlexAt 156 q p w ∧ DecAt p (some aa) c st pre rest w)) hp (fun hd hk => ⟨h.1.keepp hk, hd⟩); simpa [strs] using h4
   | cons x l => simp at h0⟩
 i32s pre rest w l hl hs h:=⟨_, _, (by kernel_rfl), fdf_getInt32Array _ w, fdfa_getInt32Array _ w, by
  have h3:=h.2
  rw [lenB_true l.length 4 (by omega)] at h3 ⊢
  exact (df_i32arr q p c _ st pre rest w h.1 l hl hs h3).mono fun _ _ hp => decL_dl hp (fun hd hk => ⟨h.1.keepp hk, hd⟩)⟩
 i64s pre rest w l hl hs h:=⟨_, _, (by kernel_rfl), fdf_getInt64Array _ w, fdfa_getInt64Array _ w, by
  have h3:=h.2
  rw [lenB_true l.length 4 (by omega)] at h3 ⊢
  exact (df_i64arr q p c _ st pre rest w h.1 l hl hs h3).mono fun _ _ hp => decL_dl hp (fun hd hk => ⟨h.1.keepp hk, hd⟩)⟩
 raw pre rest w f h:=⟨_, _, (by kernel_rfl), fdf_getRawBytes h.1.cell, fdfa_getRawBytes _ w, (dec_raw p c aa st pre f rest w h.2).mono fun _ _ hp => decB_db hp (fun hd hk => ⟨h.1.keepp hk, hd⟩)⟩
 left pre rest w h:=⟨_, _, (by kernel_rfl), fdf_remaining h.1.cell, fdfa_remaining _ w, dec_remaining p c _ st pre rest w h.2⟩
end Go.Proofs.YtmpjikihnmagoaaGreatDoor
/-
 A datum is read (76): what is common to its kinds. Conditions: each lemma's own.
-/
namespace Go.Proofs.YtmpjikihnmagoaaGreatDoor
open Go.RowKit
/-- A datum in a block of its own. -/
def GX (w : World) (g : Nat) (cs : List Value) : Prop:=w.heap[g]? = some (.cells cs.toArray 102 (0, 0))
theorem GX.cells {w : World} {g : Nat} {cs : List Value} (h : GX w g cs) (j : Nat) (v : Value) (hv : cs[j]? = some v) : w.cell? ⟨g, 0 + j, none⟩ = some v:=by
 unfold GX at h
 simp only [World.cell?, h, Nat.zero_add]
 simpa using hv
theorem GX.cell {w : World} {g : Nat} {cs : List Value} (h : GX w g cs) (j : Nat) (v : Value) (hv : cs[j]? = some v) : w.cell? ⟨g, j, none⟩ = some v:=by
 have:=h.cells j v hv
 rwa [Nat.zero_add] at this
theorem GX.frozen {w : World} {g : Nat} {cs : List Value} (h : GX w g cs) (j : Nat) : w.frozen? ⟨g, j, none⟩ = false:=by
 unfold GX at h
 simp [World.frozen?, h]
theorem GX.set {w : World} {g : Nat} {cs : List Value} (h : GX w g cs) (j : Nat) (v : Value) : GX (w.setCell ⟨g, j, none⟩ v) g (cs.set j v):=by
 unfold GX at h ⊢
 have h1:=heap_setCell_same w g j cs.toArray 102 v h
 simpa using h1
theorem GX.keep {w w' : World} {S : List Nat} {g : Nat} {cs : List Value} (h : GX w g cs) (k : Kept S w w') (hS : g ∉ S) : GX w' g cs:=k.heap h hS
theorem GX.row {w : World} {g : Nat} {cs cs' : List Value} (h : GX w g cs) : GX (w.setRow g cs'.toArray) g cs':=by
 unfold GX at h ⊢
 exact setRow_heap w g cs.toArray cs'.toArray 102 _ h
theorem results_cell_agg {fn : Func} {p u : Tmp} (h : fn.results = #[.cell p 102, .tmp u]) (tmps : Array Value) (w : World) {g : Nat} (hp : tmps.getD p undef = .pointer (some ⟨g, 0, none⟩)) {cs : List Value} (hl : cs.length = 7) (hg : GX w g cs) :
  (results fn tmps).run Tryz.prog w = .ok (.tuple #[.agg cs.toArray, tmps.getD u undef]) w:=by
 rw [results_cell_tmp h, hp]
 have h1:=run_load_struct (P:=Tryz.prog) (ty:=102) Tryz.underlying102 rfl (n:=7) (by kernel_rfl) (w:=w) g 0 cs hl hg.cells
 simp [asAddr, Result.andThen, h1]
/-- What zzGet gives of a datum: of raw bytes their number too. -/
def got (x : St) : St:=if x.kind = 16 then { x with n:=x.b.length } else x
/-- The pattern of a datum. -/
def pat (x : St) : St:=⟨x.kind, x.b.length, ByteArray.empty, false, [], [], []⟩
/-- What zzGet leaves. -/
def GetR (At : List UInt8 → List UInt8 → World → Prop) (S : List Nat) (raw : Nat) (x : St) (pre rest : List UInt8) (w : World) (e : Ending) (w' : World) : Prop :=
 ∃ A1 A2 A3 c1 c2 c3, e = .returned (.tuple #[.agg (stCells x A1 A2 A3 c1 c2 c3).toArray, .nilIface]) ∧ StV (fun b => b = raw ∨ w.heap.size ≤ b) w' x A1 A2 A3 ∧ At pre rest w' ∧ Kept S w w'
theorem gx_new (w : World) (o : Obj) (cs : List Value) : GX ((w.alloc o).alloc (.cells cs.toArray 102)) (w.heap.size + 1) cs:=by
 have h:=heap_alloc_new (w.alloc o) (.cells cs.toArray 102)
 rw [alloc_size] at h
 exact h
theorem u64_i64 {n : Int} (hn : Num64 n) : wrap64 ((u64 n : Nat) : Int) = n:=by
 unfold Num64 at hn
 unfold wrap64 u64
 omega
/-- A list has been read, its length written so. -/
def DLn (At : List UInt8 → List UInt8 → World → Prop) (S : List Nat) (n : Nat) (l : List Value) (pre rest : List UInt8) (w : World) (e : Ending) (w' : World) : Prop:=∃ A cp, e = .returned (.tuple #[.slice A n cp, .nilIface]) ∧ SlIs w' 1 A n l ∧ (∀ a, A = some a → w.heap.size ≤ a.block) ∧ At pre rest w' ∧ Kept S w w'
theorem dl_n {At : List UInt8 → List UInt8 → World → Prop} {S : List Nat} {n : Nat} {l : List Value} {pre rest : List UInt8} {w w' : World} {e : Ending} (h : DL At S l pre rest w e w') (hn : l.length = n) : DLn At S n l pre rest w e w':=by
 subst hn
 exact h
theorem strs_len (l : List ByteArray) : (strs l).length = l.length:=by simp [strs]
theorem size0 {s : ByteArray} (h : s.size = 0) : s = ByteArray.empty:=by
 have h1 : s.data.size = 0:=h
 have h2:=Array.eq_empty_of_size_eq_zero h1
 cases s
 simp only at h2
 subst h2
 rfl
theorem kept_one (w : World) (g j : Nat) (v : Value) : Kept [g] w (w.setCell ⟨g, j, none⟩ v):=(Kept.refl _ _).setCell (.inl (by simp)) v
theorem kept_row (w : World) (g : Nat) (cs : Array Value) : Kept [g] w (w.setRow g cs):=(Kept.refl _ _).setRow (.inl (by simp)) cs
end Go.Proofs.YtmpjikihnmagoaaGreatDoor
