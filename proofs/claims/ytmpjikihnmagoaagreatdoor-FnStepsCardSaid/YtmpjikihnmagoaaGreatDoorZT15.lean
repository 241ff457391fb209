/-
  What an encoder does, whichever of the four it is: each method writes the form behind what has been written. Conditions: room.
-/
import Derived.Test.YtmpjikihnmagoaaGreatDoorZT14
namespace Go.Proofs.YtmpjikihnmagoaaGreatDoor
open Go.RowKit
/-- A function with a body: a call enters it. -/
noncomputable def ents (f : FuncId) : Bool:=(Tryz.prog.funcs[f]?).any fun fn => !(fn.name == "runtime.NumGoroutine") && fn.body.isSome
theorem ents_run {f : FuncId} (h : ents f = true) : ∀ (args : Array Value) (w : World), (callFunc f args).run Tryz.prog w = .ok (.enter f args) w:=by
 intro args w
 unfold ents at h
 cases hf : Tryz.prog.funcs[f]? with
 | none => simp [hf] at h
 | some fn =>
  simp [hf] at h
  obtain ⟨c, hb⟩:=Option.isSome_iff_exists.1 h.2
  exact enters_of hf (by simpa using h.1) hb args w
/-- A method behind an interface: it is found, and its call ends so. -/
def Inv (T : TypeId) (v : Value) (name : String) (args : List Value) (w : World) (post : Ending → World → Prop) : Prop :=
 ∃ f rv, ents f = true ∧ (Go.method 483 T v ("pub-kestrel/pub/sarama." ++ name)).run Tryz.prog w = .ok (f, rv) w ∧ (nilAhead 483 T v ("pub-kestrel/pub/sarama." ++ name)).run Tryz.prog w = .ok (some false) w ∧ Calls Tryz.prog f (rv :: args).toArray w post
/-- An encoder. At: what has been written; S: the blocks it writes; cap: the room. -/
structure Enc (T : TypeId) (v : Value) (fl : Bool) (At : List UInt8 → World → Prop) (S : List Nat) (cap : Nat) : Prop where
 keep : ∀ k w w', At k w → Kept [] w w' → At k w'
 int8 : ∀ k w x, At k w → k.length + 1 ≤ cap → Inv T v "putInt8" [.int .i8 x] w fun e w' => e = .returned (.tuple #[]) ∧ At (k ++ big 1 x) w' ∧ Kept S w w'
 int16 : ∀ k w x, At k w → k.length + 2 ≤ cap → Inv T v "putInt16" [.int .i16 x] w fun e w' => e = .returned (.tuple #[]) ∧ At (k ++ big 2 x) w' ∧ Kept S w w'
 int32 : ∀ k w x, At k w → k.length + 4 ≤ cap → Inv T v "putInt32" [.int .i32 x] w fun e w' => e = .returned (.tuple #[]) ∧ At (k ++ big 4 x) w' ∧ Kept S w w'
 int64 : ∀ k w x, At k w → k.length + 8 ≤ cap → Inv T v "putInt64" [.int .i64 x] w fun e w' => e = .returned (.tuple #[]) ∧ At (k ++ big 8 x) w' ∧ Kept S w w'
 uvarint : ∀ k w (x : Nat), x < 18446744073709551616 → At k w → k.length + (Lib.uvarint x).length ≤ cap → Inv T v "putUVarint" [.int .u64 x] w fun e w' => e = .returned (.tuple #[]) ∧ At (k ++ Lib.uvarint x) w' ∧ Kept S w w'
 varint : ∀ k w (x : Int), -9223372036854775808 ≤ x → x ≤ 9223372036854775807 → At k w → k.length + (Lib.uvarint (Lib.zigzag x)).length ≤ cap → Inv T v "putVarint" [.int .i64 x] w fun e w' => e = .returned (.tuple #[]) ∧ At (k ++ Lib.uvarint (Lib.zigzag x)) w' ∧ Kept S w w'
 float : ∀ k w (x : Int), At k w → k.length + 8 ≤ cap → Inv T v "putFloat64" [.float .f64 (u64 x)] w fun e w' => e = .returned (.tuple #[]) ∧ At (k ++ big 8 x) w' ∧ Kept S w w'
 bool : ∀ k w (b : Bool), At k w → k.length + 1 ≤ cap → Inv T v "putBool" [.bool b] w fun e w' => e = .returned (.tuple #[]) ∧ At (k ++ big 1 (if b then 1 else 0)) w' ∧ Kept S w w'
 arrlen : ∀ k w (x : Int), 0 ≤ x → x ≤ 1000 → At k w → k.length + (lenB fl x 4).length ≤ cap → Inv T v "putArrayLength" [.int .i64 x] w fun e w' => e = .returned .nilIface ∧ At (k ++ lenB fl x 4) w' ∧ Kept S w w'
 text : ∀ k w (s : ByteArray), s.size ≤ 32767 → At k w → k.length + (textB fl s).length ≤ cap → Inv T v "putString" [.string s] w fun e w' => e = .returned .nilIface ∧ At (k ++ textB fl s) w' ∧ Kept S w w'
 nullText : ∀ k w, At k w → k.length + (lenB fl (-1) 2).length ≤ cap → Inv T v "putNullableString" [.pointer none] w fun e w' => e = .returned .nilIface ∧ At (k ++ lenB fl (-1) 2) w' ∧ Kept S w w'
 someText : ∀ k w (a : Addr) (s : ByteArray), s.size ≤ 32767 → w.cell? a = some (.string s) → At k w → k.length + (textB fl s).length ≤ cap → Inv T v "putNullableString" [.pointer (some a)] w fun e w' => e = .returned .nilIface ∧ At (k ++ textB fl s) w' ∧ Kept S w w'
 bytes : ∀ k w (l : List UInt8) (a : Addr) (c : Nat), l.length ≤ 300 → SlIs w 1 (some a) l.length (Lib.byteCells l) → (0 < l.length → a.block ∉ S) → At k w → k.length + (lenB fl (l.length : Int) 4 ++ l).length ≤ cap → Inv T v "putBytes" [.slice (some a) l.length c] w fun e w' => e = .returned .nilIface ∧ At (k ++ (lenB fl (l.length : Int) 4 ++ l)) w' ∧ Kept S w w'
 nil : ∀ k w (c : Nat), At k w → k.length + (lenB fl (-1) 4).length ≤ cap → Inv T v "putBytes" [.slice none 0 c] w fun e w' => e = .returned .nilIface ∧ At (k ++ (lenB fl (-1) 4)) w' ∧ Kept S w w'
 varbytes : ∀ k w (l : List UInt8) (a : Addr) (c : Nat), l.length ≤ 300 → SlIs w 1 (some a) l.length (Lib.byteCells l) → (0 < l.length → a.block ∉ S) → At k w → k.length + (Lib.uvarint (Lib.zigzag (l.length : Int)) ++ l).length ≤ cap → Inv T v "putVarintBytes" [.slice (some a) l.length c] w fun e w' => e = .returned .nilIface ∧ At (k ++ (Lib.uvarint (Lib.zigzag (l.length : Int)) ++ l)) w' ∧ Kept S w w'
 varnil : ∀ k w (c : Nat), At k w → k.length + (Lib.uvarint (Lib.zigzag (-1))).length ≤ cap → Inv T v "putVarintBytes" [.slice none 0 c] w fun e w' => e = .returned .nilIface ∧ At (k ++ (Lib.uvarint (Lib.zigzag (-1)))) w' ∧ Kept S w w'
 texts : ∀ k w (l : List ByteArray) (A : Option Addr) (c : Nat), l.length ≤ 10 → (∀ s ∈ l, s.size ≤ 60) → SlIs w 1 A l.length (strs l) → (∀ a, A = some a → 0 < l.length → a.block ∉ S) → At k w → k.length + (lenB fl (l.length : Int) 4 ++ l.flatMap (textB fl)).length ≤ cap → Inv T v "putStringArray" [.slice A l.length c] w fun e w' => e = .returned .nilIface ∧ At (k ++ (lenB fl (l.length : Int) 4 ++ l.flatMap (textB fl))) w' ∧ Kept S w w'
 i32s : ∀ k w (l : List Int) (A : Option Addr) (c : Nat), l.length ≤ 10 → A ≠ none → SlIs w 1 A l.length (l.map (Value.int .i32)) → (∀ a, A = some a → 0 < l.length → a.block ∉ S) → At k w → k.length + (lenB fl (l.length : Int) 4 ++ l.flatMap (big 4)).length ≤ cap → Inv T v "putInt32Array" [.slice A l.length c] w fun e w' => e = .returned .nilIface ∧ At (k ++ (lenB fl (l.length : Int) 4 ++ l.flatMap (big 4))) w' ∧ Kept S w w'
 i64s : ∀ k w (l : List Int) (A : Option Addr) (c : Nat), l.length ≤ 10 → SlIs w 1 A l.length (l.map (Value.int .i64)) → (∀ a, A = some a → 0 < l.length → a.block ∉ S) → At k w → k.length + (lenB fl (l.length : Int) 4 ++ l.flatMap (big 8)).length ≤ cap → Inv T v "putInt64Array" [.slice A l.length c] w fun e w' => e = .returned .nilIface ∧ At (k ++ (lenB fl (l.length : Int) 4 ++ l.flatMap (big 8))) w' ∧ Kept S w w'
 raw : ∀ k w (l : List UInt8) (A : Option Addr) (c : Nat), l.length ≤ 300 → SlIs w 1 A l.length (Lib.byteCells l) → (∀ a, A = some a → 0 < l.length → a.block ∉ S) → At k w → k.length + (l).length ≤ cap → Inv T v "putRawBytes" [.slice A l.length c] w fun e w' => e = .returned .nilIface ∧ At (k ++ (l)) w' ∧ Kept S w w'
/-- The counting encoder. -/
def PAt (p : Nat) (st : Value) (k : List UInt8) (w : World) : Prop:=PrepAt p st k.length w
theorem prepU_at {p : Nat} {st : Value} {k l : List UInt8} {w : World} {n : Nat} (h : l.length = n) {e : Ending} {w' : World} (hp : PrepU p st (k.length + n) w e w') : e = .returned (.tuple #[]) ∧ PAt p st (k ++ l) w' ∧ Kept [p] w w':=by
 obtain ⟨h1, h2, h3⟩:=hp
 refine ⟨h1, ?_, h3⟩
 unfold PAt
 rw [List.length_append, h]
 exact h2
theorem prepN_at {p : Nat} {st : Value} {k l : List UInt8} {w : World} {n : Nat} (h : l.length = n) {e : Ending} {w' : World} (hp : PrepN p st (k.length + n) w e w') : e = .returned .nilIface ∧ PAt p st (k ++ l) w' ∧ Kept [p] w w':=by
 obtain ⟨h1, h2, h3⟩:=hp
 refine ⟨h1, ?_, h3⟩
 unfold PAt
 rw [List.length_append, h]
 exact h2
theorem textB_len (s : ByteArray) : (textB false s).length = 2 + s.size:=by
 rw [textB_false, List.length_append, big_len]
 rfl
theorem sumT_flat (f : ByteArray → Nat) (g : ByteArray → List UInt8) (h : ∀ s, (g s).length = f s) : ∀ l : List ByteArray, (l.flatMap g).length = sumT f l
 | [] => rfl
 | x :: l => by rw [List.flatMap_cons, List.length_append, h, sumT_flat f g h l]; simp [sumT]
theorem enc_prep (p : Nat) (st : Value) : Enc 160 (.pointer (some ⟨p, 0, none⟩)) false (PAt p st) [p] 100000 where
 keep _ _ _ h k:=PrepAt.keep h k (by simp)
 int8 k w x h hk:=⟨_, _, (by kernel_rfl), fp_putInt8 _ w, fpa_putInt8 _ w, (prep_int8 p k.length st w h (by omega) x).mono fun _ _ hp => prepU_at (big_len _ _) hp⟩
 int16 k w x h hk:=⟨_, _, (by kernel_rfl), fp_putInt16 _ w, fpa_putInt16 _ w, (prep_int16 p k.length st w h (by omega) x).mono fun _ _ hp => prepU_at (big_len _ _) hp⟩
 int32 k w x h hk:=⟨_, _, (by kernel_rfl), fp_putInt32 _ w, fpa_putInt32 _ w, (prep_int32 p k.length st w h (by omega) x).mono fun _ _ hp => prepU_at (big_len _ _) hp⟩
 int64 k w x h hk:=⟨_, _, (by kernel_rfl), fp_putInt64 _ w, fpa_putInt64 _ w, (prep_int64 p k.length st w h (by omega) x).mono fun _ _ hp => prepU_at (big_len _ _) hp⟩
 uvarint k w x hx h hk:=⟨_, _, (by kernel_rfl), fp_putUVarint _ w, fpa_putUVarint _ w, (prep_uvarint p k.length st w h (by omega) x hx).mono fun _ _ hp => prepU_at rfl hp⟩
 varint k w x h0 h1 h hk:=⟨_, _, (by kernel_rfl), fp_putVarint _ w, fpa_putVarint _ w, (prep_varint p k.length st w h (by omega) x h0 h1).mono fun _ _ hp => prepU_at rfl hp⟩
 float k w x h hk:=⟨_, _, (by kernel_rfl), fp_putFloat64 _ w, fpa_putFloat64 _ w, (prep_float p k.length st w h (by omega) _).mono fun _ _ hp => prepU_at (big_len _ _) hp⟩
 bool k w b h hk:=⟨_, _, (by kernel_rfl), fp_putBool _ w, fpa_putBool _ w, (prep_bool p k.length st w h (by omega) b).mono fun _ _ hp => prepU_at (big_len _ _) hp⟩
 arrlen k w x h0 h1 h hk:=⟨_, _, (by kernel_rfl), fp_putArrayLength _ w, fpa_putArrayLength _ w, (prep_arrlen p k.length st w h (by omega) x (by omega)).mono fun _ _ hp => prepN_at (big_len _ _) hp⟩
 text k w s hs h hk:=⟨_, _, (by kernel_rfl), fp_putString _ w, fpa_putString _ w, (prep_string p k.length st w h (by omega) s hs).mono fun _ _ hp => prepN_at (textB_len s) hp⟩
 nullText k w h hk:=⟨_, _, (by kernel_rfl), fp_putNullableString _ w, fpa_putNullableString _ w, (prep_nullstr p k.length st w h (by omega)).mono fun _ _ hp => prepN_at (big_len _ _) hp⟩
 someText k w a s hs ha h hk:=⟨_, _, (by kernel_rfl), fp_putNullableString _ w, fpa_putNullableString _ w, (prep_somestr p k.length st w h (by omega) a s hs ha).mono fun _ _ hp => prepN_at (textB_len s) hp⟩
 bytes k w l a c hl _ _ h hk:=⟨_, _, (by kernel_rfl), fp_putBytes _ w, fpa_putBytes _ w, (prep_bytes p k.length st w h (by omega) (some a) l.length c (by omega) (by simp)).mono fun _ _ hp => prepN_at (by rw [List.length_append]; rfl) hp⟩
 nil k w c h hk:=⟨_, _, (by kernel_rfl), fp_putBytes _ w, fpa_putBytes _ w, (prep_nil p k.length st w h (by omega) c).mono fun _ _ hp => prepN_at (big_len _ _) hp⟩
 varbytes k w l a c hl _ _ h hk:=⟨_, _, (by kernel_rfl), fp_putVarintBytes _ w, fpa_putVarintBytes _ w, (prep_varbytes p k.length st w h (by omega) a l.length c (by omega)).mono fun _ _ hp => prepN_at (by rw [List.length_append]) hp⟩
 varnil k w c h hk:=⟨_, _, (by kernel_rfl), fp_putVarintBytes _ w, fpa_putVarintBytes _ w, (prep_varnil p k.length st w h (by omega) c).mono fun _ _ hp => prepN_at rfl hp⟩
 texts k w l A c hl hs hA hAp h hk:=⟨_, _, (by kernel_rfl), fp_putStringArray _ w, fpa_putStringArray _ w, (prep_strarr p k.length st w h (by omega) A c l hl (fun s hs' => by have:=hs s hs'; omega) hA (fun a ha h0 => by simpa using hAp a ha h0)).mono fun _ _ hp => prepN_at (by rw [List.length_append, sumT_flat _ _ textB_len]; rfl) hp⟩
 i32s k w l A c hl _ _ _ h hk:=⟨_, _, (by kernel_rfl), fp_putInt32Array _ w, fpa_putInt32Array _ w, (prep_i32arr p k.length st w h (by omega) A l.length c (by omega)).mono fun _ _ hp => prepN_at (by rw [List.length_append, big_flat_len]; rfl) hp⟩
 i64s k w l A c hl _ _ h hk:=⟨_, _, (by kernel_rfl), fp_putInt64Array _ w, fpa_putInt64Array _ w, (prep_i64arr p k.length st w h (by omega) A l.length c (by omega)).mono fun _ _ hp => prepN_at (by rw [List.length_append, big_flat_len]; rfl) hp⟩
 raw k w l A c hl _ _ h hk:=⟨_, _, (by kernel_rfl), fp_putRawBytes _ w, fpa_putRawBytes _ w, (prep_raw p k.length st w h (by omega) A l.length c (by omega)).mono fun _ _ hp => prepN_at rfl hp⟩
end Go.Proofs.YtmpjikihnmagoaaGreatDoor
/-
 The flexible counting encoder is an encoder. Conditions: none beyond each lemma's own.
-/
namespace Go.Proofs.YtmpjikihnmagoaaGreatDoor
open Go.RowKit
/-- The flexible counting encoder. -/
def FPAt (q p : Nat) (st : Value) (k : List UInt8) (w : World) : Prop:=FlexAt 168 q p w ∧ PAt p st k w
theorem pfU_at {q p : Nat} {st : Value} {k l : List UInt8} {w : World} {n : Nat} (hq : FlexAt 168 q p w) (h : l.length = n) {e : Ending} {w' : World} (hp : PrepU p st (k.length + n) w e w') : e = .returned (.tuple #[]) ∧ FPAt q p st (k ++ l) w' ∧ Kept [p] w w':=by
 obtain ⟨h1, h2, h3⟩:=prepU_at h hp
 exact ⟨h1, ⟨hq.keep h3, h2⟩, h3⟩
theorem pfN_at {q p : Nat} {st : Value} {k l : List UInt8} {w : World} {n : Nat} (hq : FlexAt 168 q p w) (h : l.length = n) {e : Ending} {w' : World} (hp : PrepN p st (k.length + n) w e w') : e = .returned .nilIface ∧ FPAt q p st (k ++ l) w' ∧ Kept [p] w w':=by
 obtain ⟨h1, h2, h3⟩:=prepN_at h hp
 exact ⟨h1, ⟨hq.keep h3, h2⟩, h3⟩
theorem textB_lenT (s : ByteArray) : (textB true s).length = (Lib.uvarint (u64 ((s.size : Int) + 1))).length + s.size:=by
 rw [textB_true, List.length_append]
 rfl
theorem enc_pf (q p : Nat) (st : Value) : Enc 166 (.pointer (some ⟨q, 0, none⟩)) true (FPAt q p st) [p] 100000 where
 keep _ _ _ h k:=⟨h.1.keep0 k, PrepAt.keep h.2 k (by simp)⟩
 int8 k w x h hk:=⟨_, _, (by kernel_rfl), fpf_putInt8 h.1.cell, fpfa_putInt8 _ w, (prep_int8 p k.length st w h.2 (by omega) x).mono fun _ _ hp => pfU_at h.1 (big_len _ _) hp⟩
 int16 k w x h hk:=⟨_, _, (by kernel_rfl), fpf_putInt16 h.1.cell, fpfa_putInt16 _ w, (prep_int16 p k.length st w h.2 (by omega) x).mono fun _ _ hp => pfU_at h.1 (big_len _ _) hp⟩
 int32 k w x h hk:=⟨_, _, (by kernel_rfl), fpf_putInt32 h.1.cell, fpfa_putInt32 _ w, (prep_int32 p k.length st w h.2 (by omega) x).mono fun _ _ hp => pfU_at h.1 (big_len _ _) hp⟩
 int64 k w x h hk:=⟨_, _, (by kernel_rfl), fpf_putInt64 h.1.cell, fpfa_putInt64 _ w, (prep_int64 p k.length st w h.2 (by omega) x).mono fun _ _ hp => pfU_at h.1 (big_len _ _) hp⟩
 uvarint k w x hx h hk:=⟨_, _, (by kernel_rfl), fpf_putUVarint h.1.cell, fpfa_putUVarint _ w, (prep_uvarint p k.length st w h.2 (by omega) x hx).mono fun _ _ hp => pfU_at h.1 rfl hp⟩
 varint k w x h0 h1 h hk:=⟨_, _, (by kernel_rfl), fpf_putVarint h.1.cell, fpfa_putVarint _ w, (prep_varint p k.length st w h.2 (by omega) x h0 h1).mono fun _ _ hp => pfU_at h.1 rfl hp⟩
 float k w x h hk:=⟨_, _, (by kernel_rfl), fpf_putFloat64 h.1.cell, fpfa_putFloat64 _ w, (prep_float p k.length st w h.2 (by omega) _).mono fun _ _ hp => pfU_at h.1 (big_len _ _) hp⟩
 bool k w b h hk:=⟨_, _, (by kernel_rfl), fpf_putBool h.1.cell, fpfa_putBool _ w, (prep_bool p k.length st w h.2 (by omega) b).mono fun _ _ hp => pfU_at h.1 (big_len _ _) hp⟩
 arrlen k w x h0 h1 h hk:=⟨_, _, (by kernel_rfl), fpf_putArrayLength _ w, fpfa_putArrayLength _ w, (pf_arrlen q p k.length st w h.1 h.2 (by omega) x (by omega) (by omega)).mono fun _ _ hp => pfN_at h.1 rfl hp⟩
 text k w s hs h hk:=⟨_, _, (by kernel_rfl), fpf_putString _ w, fpfa_putString _ w, (pf_string q p k.length st w h.1 h.2 (by omega) s hs).mono fun _ _ hp => pfN_at h.1 (textB_lenT s) hp⟩
 nullText k w h hk:=⟨_, _, (by kernel_rfl), fpf_putNullableString _ w, fpfa_putNullableString _ w, (pf_nullstr q p k.length st w h.1 h.2 (by omega)).mono fun _ _ hp => pfN_at h.1 rfl hp⟩
 someText k w a s hs ha h hk:=⟨_, _, (by kernel_rfl), fpf_putNullableString _ w, fpfa_putNullableString _ w, (pf_somestr q p k.length st w h.1 h.2 (by omega) a s hs ha).mono fun _ _ hp => pfN_at h.1 (textB_lenT s) hp⟩
 bytes k w l a c hl _ _ h hk:=⟨_, _, (by kernel_rfl), fpf_putBytes _ w, fpfa_putBytes _ w, (pf_bytes q p k.length st w h.1 h.2 (by omega) a l.length c (by omega)).mono fun _ _ hp => pfN_at h.1 (by rw [List.length_append]; rfl) hp⟩
 nil k w c h hk:=⟨_, _, (by kernel_rfl), fpf_putBytes _ w, fpfa_putBytes _ w, (pf_nil q p k.length st w h.1 h.2 (by omega) c).mono fun _ _ hp => pfN_at h.1 rfl hp⟩
 varbytes k w l a c hl _ _ h hk:=⟨_, _, (by kernel_rfl), fpf_putVarintBytes h.1.cell, fpfa_putVarintBytes _ w, (prep_varbytes p k.length st w h.2 (by omega) a l.length c (by omega)).mono fun _ _ hp => pfN_at h.1 (by rw [List.length_append]) hp⟩
 varnil k w c h hk:=⟨_, _, (by kernel_rfl), fpf_putVarintBytes h.1.cell, fpfa_putVarintBytes _ w, (prep_varnil p k.length st w h.2 (by omega) c).mono fun _ _ hp => pfN_at h.1 rfl hp⟩
 texts k w l A c hl hs hA hAp h hk:=⟨_, _, (by kernel_rfl), fpf_putStringArray _ w, fpfa_putStringArray _ w, (pf_strarr q p k.length st w h.1 h.2 (by omega) A c l hl (fun s hs' => by have:=hs s hs'; omega) hA (fun a ha h0 => by simpa using hAp a ha h0)).mono fun _ _ hp => pfN_at h.1 (by rw [List.length_append, sumT_flat _ _ textB_lenT]; rfl) hp⟩
 i32s k w l A c hl hn _ _ h hk:=⟨_, _, (by kernel_rfl), fpf_putInt32Array _ w, fpfa_putInt32Array _ w, (pf_i32arr q p k.length st w h.1 h.2 (by omega) A l.length c (by omega) hn).mono fun _ _ hp => pfN_at h.1 (by rw [List.length_append, big_flat_len]; rfl) hp⟩
 i64s k w l A c hl _ _ h hk:=⟨_, _, (by kernel_rfl), fpf_putInt64Array _ w, fpfa_putInt64Array _ w, (pf_i64arr q p k.length st w h.1 h.2 (by omega) A l.length c (by omega)).mono fun _ _ hp => pfN_at h.1 (by rw [List.length_append, big_flat_len]; rfl) hp⟩
 raw k w l A c hl _ _ h hk:=⟨_, _, (by kernel_rfl), fpf_putRawBytes h.1.cell, fpfa_putRawBytes _ w, (prep_raw p k.length st w h.2 (by omega) A l.length c (by omega)).mono fun _ _ hp => pfN_at h.1 rfl hp⟩
end Go.Proofs.YtmpjikihnmagoaaGreatDoor
/-
 The writing encoder is an encoder. Conditions: none beyond each lemma's own.
-/
namespace Go.Proofs.YtmpjikihnmagoaaGreatDoor
open Go.RowKit
theorem enc_real (p r N : Nat) (st : Value) (hN : N ≤ 100000) : Enc 172 (.pointer (some ⟨p, 0, none⟩)) false (RealAt p r N st) [p, r] N where
 keep _ _ _ h k:=h.keep k (by simp) (by simp)
 int8 k w x h hk:=⟨_, _, (by kernel_rfl), fr_putInt8 _ w, fra_putInt8 _ w, real_int8 p r N st k w h x hk (by omega)⟩
 int16 k w x h hk:=⟨_, _, (by kernel_rfl), fr_putInt16 _ w, fra_putInt16 _ w, real_int16 p r N st k w h x hk (by omega)⟩
 int32 k w x h hk:=⟨_, _, (by kernel_rfl), fr_putInt32 _ w, fra_putInt32 _ w, real_int32 p r N st k w h x hk (by omega)⟩
 int64 k w x h hk:=⟨_, _, (by kernel_rfl), fr_putInt64 _ w, fra_putInt64 _ w, real_int64 p r N st k w h x hk (by omega)⟩
 uvarint k w x hx h hk:=⟨_, _, (by kernel_rfl), fr_putUVarint _ w, fra_putUVarint _ w, real_uvarint p r N st k w h x hx (by omega) hk⟩
 varint k w x h0 h1 h hk:=⟨_, _, (by kernel_rfl), fr_putVarint _ w, fra_putVarint _ w, real_varint p r N st k w h x h0 h1 (by omega) hk⟩
 float k w x h hk:=⟨_, _, (by kernel_rfl), fr_putFloat64 _ w, fra_putFloat64 _ w, real_float p r N st k w h x hk (by omega)⟩
 bool k w b h hk:=⟨_, _, (by kernel_rfl), fr_putBool _ w, fra_putBool _ w, by cases b with | true => exact real_bool_true p r N st k w h hk (by omega) | false => exact real_bool_false p r N st k w h hk (by omega)⟩
 arrlen k w x h0 h1 h hk:=⟨_, _, (by kernel_rfl), fr_putArrayLength _ w, fra_putArrayLength _ w, real_arrlen p r N st k w h x (by omega) (by omega) (by rw [show lenB false _ 4 = big 4 _ from rfl, big_len] at hk; exact hk) (by omega)⟩
 text k w s hs h hk:=⟨_, _, (by kernel_rfl), fr_putString _ w, fra_putString _ w, real_string p r N st k w h s hs (by rw [textB_len] at hk; exact hk) (by omega)⟩
 nullText k w h hk:=⟨_, _, (by kernel_rfl), fr_putNullableString _ w, fra_putNullableString _ w, real_nullstr p r N st k w h (by rw [show lenB false (-1) 2 = big 2 (-1) from rfl, big_len] at hk; exact hk) (by omega)⟩
 someText k w a s hs ha h hk:=⟨_, _, (by kernel_rfl), fr_putNullableString _ w, fra_putNullableString _ w, real_somestr p r N st k w h a s hs ha (by rw [textB_len] at hk; exact hk) (by omega)⟩
 bytes k w l a c hl hA hap h hk:=⟨_, _, (by kernel_rfl), fr_putBytes _ w, fra_putBytes _ w, real_bytes p r N st k w h l a c hA (fun h0 => by simpa using hap h0) (by omega) (by rw [List.length_append, show lenB false _ 4 = big 4 _ from rfl, big_len] at hk; exact hk) (by omega)⟩
 nil k w c h hk:=⟨_, _, (by kernel_rfl), fr_putBytes _ w, fra_putBytes _ w, real_nil p r N st k w h c (by rw [show lenB false _ 4 = big 4 _ from rfl, big_len] at hk; exact hk) (by omega)⟩
 varbytes k w l a c hl hA hap h hk:=⟨_, _, (by kernel_rfl), fr_putVarintBytes _ w, fra_putVarintBytes _ w, real_varbytes p r N st k w h l a c hA (fun h0 => by simpa using hap h0) (by omega) (by omega) (by rw [List.length_append] at hk; exact hk)⟩
 varnil k w c h hk:=⟨_, _, (by kernel_rfl), fr_putVarintBytes _ w, fra_putVarintBytes _ w, real_varnil p r N st k w h c (by omega) hk⟩
 texts k w l A c hl hs hA hAp h hk:=⟨_, _, (by kernel_rfl), fr_putStringArray _ w, fra_putStringArray _ w, real_strarr p r N st k w h A c l (fun s hs' => by have:=hs s hs'; omega) hA (fun a ha h0 => by simpa using hAp a ha h0) (by omega) (by omega) hk⟩
 i32s k w l A c hl hn hA hAp h hk:=⟨_, _, (by kernel_rfl), fr_putInt32Array _ w, fra_putInt32Array _ w, real_i32arr p r N st k w h A c l (by simpa using hA) (fun a ha h0 => by simpa using hAp a ha h0) (by omega) (by omega) hk⟩
 i64s k w l A c hl hA hAp h hk:=⟨_, _, (by kernel_rfl), fr_putInt64Array _ w, fra_putInt64Array _ w, real_i64arr p r N st k w h A c l (by simpa using hA) (fun a ha h0 => by simpa using hAp a ha h0) (by omega) (by omega) hk⟩
 raw k w l A c hl hA hAp h hk:=⟨_, _, (by kernel_rfl), fr_putRawBytes _ w, fra_putRawBytes _ w, real_raw p r N st k w h l A c hA hk (by omega)⟩
end Go.Proofs.YtmpjikihnmagoaaGreatDoor
/-
 The flexible writing encoder is an encoder. Conditions: none beyond each lemma's own.
-/
namespace Go.Proofs.YtmpjikihnmagoaaGreatDoor
open Go.RowKit
/-- The flexible writing encoder. -/
def FRAt (q p r N : Nat) (st : Value) (k : List UInt8) (w : World) : Prop:=FlexAt 177 q p w ∧ RealAt p r N st k w
theorem rf_at {q p r N : Nat} {st : Value} {k : List UInt8} {w w' : World} {e v : Ending} (hq : FlexAt 177 q p w) (hqr : q ≠ r) (h : e = v ∧ RealAt p r N st k w' ∧ Kept [p, r] w w') : e = v ∧ FRAt q p r N st k w' ∧ Kept [p, r] w w':=⟨h.1, ⟨hq.keep2 hqr h.2.2, h.2.1⟩, h.2.2⟩
theorem enc_rf (q p r N : Nat) (st : Value) (hqr : q ≠ r) (hN : N ≤ 100000) : Enc 175 (.pointer (some ⟨q, 0, none⟩)) true (FRAt q p r N st) [p, r] N where
 keep _ _ _ h k:=⟨h.1.keep0 k, h.2.keep k (by simp) (by simp)⟩
 int8 k w x h hk:=⟨_, _, (by kernel_rfl), frf_putInt8 h.1.cell, frfa_putInt8 _ w, Calls.mono (real_int8 p r N st k w h.2 x hk (by omega)) fun _ _ hp => rf_at h.1 hqr hp⟩
 int16 k w x h hk:=⟨_, _, (by kernel_rfl), frf_putInt16 h.1.cell, frfa_putInt16 _ w, Calls.mono (real_int16 p r N st k w h.2 x hk (by omega)) fun _ _ hp => rf_at h.1 hqr hp⟩
 int32 k w x h hk:=⟨_, _, (by kernel_rfl), frf_putInt32 h.1.cell, frfa_putInt32 _ w, Calls.mono (real_int32 p r N st k w h.2 x hk (by omega)) fun _ _ hp => rf_at h.1 hqr hp⟩
 int64 k w x h hk:=⟨_, _, (by kernel_rfl), frf_putInt64 h.1.cell, frfa_putInt64 _ w, Calls.mono (real_int64 p r N st k w h.2 x hk (by omega)) fun _ _ hp => rf_at h.1 hqr hp⟩
 uvarint k w x hx h hk:=⟨_, _, (by kernel_rfl), frf_putUVarint h.1.cell, frfa_putUVarint _ w, Calls.mono (real_uvarint p r N st k w h.2 x hx (by omega) hk) fun _ _ hp => rf_at h.1 hqr hp⟩
 varint k w x h0 h1 h hk:=⟨_, _, (by kernel_rfl), frf_putVarint h.1.cell, frfa_putVarint _ w, Calls.mono (real_varint p r N st k w h.2 x h0 h1 (by omega) hk) fun _ _ hp => rf_at h.1 hqr hp⟩
 float k w x h hk:=⟨_, _, (by kernel_rfl), frf_putFloat64 h.1.cell, frfa_putFloat64 _ w, Calls.mono (real_float p r N st k w h.2 x hk (by omega)) fun _ _ hp => rf_at h.1 hqr hp⟩
 bool k w b h hk:=⟨_, _, (by kernel_rfl), frf_putBool h.1.cell, frfa_putBool _ w, Calls.mono (by cases b with | true => exact real_bool_true p r N st k w h.2 hk (by omega) | false => exact real_bool_false p r N st k w h.2 hk (by omega)) fun _ _ hp => rf_at h.1 hqr hp⟩
 arrlen k w x h0 h1 h hk:=⟨_, _, (by kernel_rfl), frf_putArrayLength _ w, frfa_putArrayLength _ w, Calls.mono (rf_arrlen q p r N st k w h.1 hqr h.2 x (by omega) (by omega) (by omega) hk) fun _ _ hp => rf_at h.1 hqr hp⟩
 text k w s hs h hk:=⟨_, _, (by kernel_rfl), frf_putString _ w, frfa_putString _ w, Calls.mono (rf_string q p r N st k w h.1 hqr h.2 s hs (by omega) (by rw [textB_lenT] at hk; exact hk)) fun _ _ hp => rf_at h.1 hqr hp⟩
 nullText k w h hk:=⟨_, _, (by kernel_rfl), frf_putNullableString _ w, frfa_putNullableString _ w, Calls.mono (rf_nullstr q p r N st k w h.1 hqr h.2 (by omega) hk) fun _ _ hp => rf_at h.1 hqr hp⟩
 someText k w a s hs ha h hk:=⟨_, _, (by kernel_rfl), frf_putNullableString _ w, frfa_putNullableString _ w, Calls.mono (rf_somestr q p r N st k w h.1 hqr h.2 a s hs ha (by omega) (by rw [textB_lenT] at hk; exact hk)) fun _ _ hp => rf_at h.1 hqr hp⟩
 bytes k w l a c hl hA hap h hk:=⟨_, _, (by kernel_rfl), frf_putBytes _ w, frfa_putBytes _ w, Calls.mono (rf_bytes q p r N st k w h.1 hqr h.2 l a c hA (fun h0 => by simpa using hap h0) (by omega) (by omega) (by rw [List.length_append] at hk; exact hk)) fun _ _ hp => rf_at h.1 hqr hp⟩
 nil k w c h hk:=⟨_, _, (by kernel_rfl), frf_putBytes _ w, frfa_putBytes _ w, Calls.mono (rf_nil q p r N st k w h.1 hqr h.2 c (by omega) hk) fun _ _ hp => rf_at h.1 hqr hp⟩
 varbytes k w l a c hl hA hap h hk:=⟨_, _, (by kernel_rfl), frf_putVarintBytes h.1.cell, frfa_putVarintBytes _ w, Calls.mono (real_varbytes p r N st k w h.2 l a c hA (fun h0 => by simpa using hap h0) (by omega) (by omega) (by rw [List.length_append] at hk; exact hk)) fun _ _ hp => rf_at h.1 hqr hp⟩
 varnil k w c h hk:=⟨_, _, (by kernel_rfl), frf_putVarintBytes h.1.cell, frfa_putVarintBytes _ w, Calls.mono (real_varnil p r N st k w h.2 c (by omega) hk) fun _ _ hp => rf_at h.1 hqr hp⟩
 texts k w l A c hl hs hA hAp h hk:=⟨_, _, (by kernel_rfl), frf_putStringArray _ w, frfa_putStringArray _ w, Calls.mono (rf_strarr q p r N st k w h.1 hqr h.2 A c l (fun s hs' => by have:=hs s hs'; omega) hA (fun a ha h0 => by simpa using hAp a ha h0) (by omega) (by omega) hk) fun _ _ hp => rf_at h.1 hqr hp⟩
 i32s k w l A c hl hn hA hAp h hk:=⟨_, _, (by kernel_rfl), frf_putInt32Array _ w, frfa_putInt32Array _ w, Calls.mono (rf_i32arr q p r N st k w h.1 hqr h.2 A c l (by simpa using hA) (fun a ha h0 => by simpa using hAp a ha h0) (by omega) (by omega) hk hn) fun _ _ hp => rf_at h.1 hqr hp⟩
 i64s k w l A c hl hA hAp h hk:=⟨_, _, (by kernel_rfl), frf_putInt64Array _ w, frfa_putInt64Array _ w, Calls.mono (rf_i64arr q p r N st k w h.1 hqr h.2 A c l (by simpa using hA) (fun a ha h0 => by simpa using hAp a ha h0) (by omega) (by omega) hk) fun _ _ hp => rf_at h.1 hqr hp⟩
 raw k w l A c hl hA hAp h hk:=⟨_, _, (by kernel_rfl), frf_putRawBytes h.1.cell, frfa_putRawBytes _ w, Calls.mono (real_raw p r N st k w h.2 l A c hA hk (by omega)) fun _ _ hp => rf_at h.1 hqr hp⟩
end Go.Proofs.YtmpjikihnmagoaaGreatDoor
/-
 A datum is put (77): what is common to its kinds. Conditions: each lemma's own.
-/
namespace Go.Proofs.YtmpjikihnmagoaaGreatDoor
open Go.RowKit
theorem Inv.mono {T : TypeId} {v : Value} {name : String} {args : List Value} {w : World} {post post' : Ending → World → Prop} (h : Inv T v name args w post) (hp : ∀ e w', post e w' → post' e w') : Inv T v name args w post':=by
 obtain ⟨f, rv, h0, h1, h2, h3⟩:=h
 exact ⟨f, rv, h0, h1, h2, h3.mono hp⟩
section
variable {ops : Array Oper} {Q : Exit → Act → World → Prop} {a : Act} {w : World} {rest : List Oper} {o : Oper}
/-- A call by an interface: the method's contract. -/
theorem ow_invoke {K : Act → World → Prop} (r : Operand) (name : String) (args : Array Operand) (tys : Array TypeId) (ho : o.op = .call { callee:=.invoke r name, args:=args, argTypes:=tys }) (T : TypeId) (v : Value) (hr : a.eval r = .iface T v) (nm : String) (hn : name = "pub-kestrel/pub/sarama." ++ nm) (xs : List Value) (hx : args.map a.eval = xs.toArray) (post : Ending → World → Prop) (hI : Inv T v nm xs w post) (h : ∀ e w', post e w' → ∃ u, e = .returned u ∧ K (a.put o.dst u) w') : o.wp Tryz.prog a w K Q:=by
 obtain ⟨f, rv, he, hm, _, hc⟩:=hI
 have hrun : (execOp a.eval o).run Tryz.prog w = .ok (.enter f (rv :: xs).toArray) w:=by
  have hext : (#[Value.iface T v] ++ xs.toArray).extract 1 (#[Value.iface T v] ++ xs.toArray).size = xs.toArray:=by
   apply Array.ext'
   simp
  have hpush : #[rv] ++ xs.toArray = (rv :: xs).toArray:=by simp
  rw [← hn] at hm
  simp only [execOp, ho, resolve, hx, hr]
  simp only [invoke, callMethod, pure_bind]
  simp [go_sem, hm, ents_run he]
 unfold Oper.wp
 rw [hrun]
 show Calls Tryz.prog f (rv :: xs).toArray w _
 refine hc.mono fun e w' hp => ?_
 obtain ⟨u, rfl, hk⟩:=h e w' hp
 exact hk
theorem wl_invoke (hgd : o.guard = none) (r : Operand) (name : String) (args : Array Operand) (tys : Array TypeId) (ho : o.op = .call { callee:=.invoke r name, args:=args, argTypes:=tys }) (T : TypeId) (v : Value) (hr : a.eval r = .iface T v) (nm : String) (hn : name = "pub-kestrel/pub/sarama." ++ nm) (xs : List Value) (hx : args.map a.eval = xs.toArray) (post : Ending → World → Prop) (hI : Inv T v nm xs w post) (h : ∀ e w', post e w' → ∃ u, e = .returned u ∧ wpList Tryz.prog ops Q rest (a.put o.dst u) w') : wpList Tryz.prog ops Q (o :: rest) a w :=
 wpList_plain hgd fun _ hK => ow_invoke r name args tys ho T v hr nm hn xs hx post hI fun e w' hp => by
  obtain ⟨u, hu, hk⟩:=h e w' hp
  exact ⟨u, hu, hK _ _ hk⟩
end
theorem alloc_size (w : World) (o : Obj) : (w.alloc o).heap.size = w.heap.size + 1:=by show (w.heap.push o).size = _; rw [Array.size_push]
theorem own_lit1 (w : World) (o : Obj) : ((w.alloc o).alloc (.cells #[] 5)).ownsRow (w.heap.size + 1) 5 1 (.slice (some ⟨w.heap.size + 1, 0, none⟩) 0 0) 0 []:=by
 have h1:=World.ownsRow_lit (base:=w.heap.size + 1) (e:=5) (size:=1) (w.alloc o) #[] 0 (by rw [alloc_size]; exact Nat.le_refl _) (by decide) rfl
 rw [alloc_size] at h1
 exact h1
theorem info5b : (Tryz.prog.info? 5).map (fun i => (i.zero, i.size, i.bytes)) = some (some (.int .u8 0), 1, 1):=by kernel_rfl
theorem info21b : (Tryz.prog.info? 21).map (fun i => (i.zero, i.size, i.bytes)) = some (some (.int .i32 0), 1, 4):=by kernel_rfl
theorem bytes_one (l : List UInt8) : ∀ u ∈ Lib.byteCells l, u.oneCell' = true:=by
 intro u hu
 obtain ⟨x, _, rfl⟩:=List.mem_map.1 hu
 rfl
/-- A datum's cells, and what they point to; X: of the blocks. -/
structure StV (X : Nat → Prop) (w : World) (x : St) (A1 A2 A3 : Option Addr) : Prop where
 b : SlIs w 1 A1 x.b.length (Lib.byteCells x.b)
 t : SlIs w 1 A2 x.texts.length (strs x.texts)
 n : SlIs w 1 A3 x.nums.length (x.nums.map (Value.int .i64))
 xb : ∀ a, A1 = some a → 0 < x.b.length → X a.block
 xt : ∀ a, A2 = some a → 0 < x.texts.length → X a.block
 xn : ∀ a, A3 = some a → 0 < x.nums.length → X a.block
theorem StV.kept {X : Nat → Prop} {S : List Nat} {w w' : World} {x : St} {A1 A2 A3 : Option Addr} (h : StV X w x A1 A2 A3) (k : Kept S w w') (hX : ∀ b, X b → b ∉ S) : StV X w' x A1 A2 A3 :=
 ⟨slis_keep h.b k fun a e h0 => hX _ (h.xb a e h0), slis_keep h.t k fun a e h0 => hX _ (h.xt a e h0), slis_keep h.n k fun a e h0 => hX _ (h.xn a e h0), h.xb, h.xt, h.xn⟩
/-- The cells of a datum. -/
def stCells (x : St) (A1 A2 A3 : Option Addr) (c1 c2 c3 : Nat) : List Value:=[.int .i64 x.kind, .int .i64 x.n, .string x.s, .bool x.null, .slice A1 x.b.length c1, .slice A2 x.texts.length c2, .slice A3 x.nums.length c3]
/-- What zzPut leaves. -/
def PutR (At : List UInt8 → World → Prop) (S : List Nat) (k : List UInt8) (w : World) (e : Ending) (w' : World) : Prop:=e = .returned .nilIface ∧ At k w' ∧ Kept S w w'
/-- Seven cells, boxed, stay. -/
theorem box_cells {w w1 : World} {cs : List Value} {T : TypeId} {S : List Nat} {o2 : Obj} (hk : Kept S ((w.alloc (.cells cs.toArray T)).alloc o2) w1) (hS : w.heap.size ∉ S) (j : Nat) (v : Value) (hv : cs[j]? = some v) : w1.cell? ⟨w.heap.size, j, none⟩ = some v:=by
 refine hk.cell ?_ hS
 refine (((Kept.refl [] _).alloc o2)).cell ?_ (by simp)
 have h1:=heap_alloc_new w (.cells cs.toArray T)
 simp only [World.cell?, h1]
 simpa using hv
theorem own_ge {w : World} {base : Nat} {e : TypeId} {s n : Nat} {v : Value} {xs : List Value} (h : w.ownsRow base e s v n xs) : ∀ g, v.ownBlock = some g → base ≤ g:=by
 intro g hg
 rcases h.2 with ⟨rfl, _⟩ | ⟨g', cap, cur, rfl, hb, _⟩
 ·cases hg
 ·have : g' = g:=by simpa [Value.ownBlock] using hg
  omega
theorem own_kept0 {w w' : World} {base : Nat} {e : TypeId} {s n : Nat} {v : Value} {xs : List Value} (h : w.ownsRow base e s v n xs) (k : Kept [] w w') : w'.ownsRow base e s v n xs:=k.own h (fun _ _ => by simp)
theorem one_sl2 (w : World) (v : Value) (e : TypeId) {n : Nat} (h : w.heap.size = n) : SlIs (w.alloc (.cells #[v] e)) 1 (some ⟨n, 0, none⟩) 1 [v]:=by
 subst h
 refine ⟨rfl, by omega, fun _ => ⟨_, _, rfl, fun i u hu => ?_⟩⟩
 match i, hu with
 | 0, hu =>
  have : v = u:=by simpa using hu
  subst this
  rw [cell_of_row _ _ _ _ _ _ (heap_alloc_new _ _)]
  rfl
/-- A row of the call's own that is not nil. -/
theorem own_some {w : World} {base : Nat} {e : TypeId} {s n : Nat} {v : Value} {xs : List Value} (h : w.ownsRow base e s v n xs) (hs : v.ownBlock.isSome = true) : ∃ a c, v = .slice (some a) n c ∧ SlIs w s (some a) n xs ∧ base ≤ a.block ∧ a.block < w.heap.size:=by
 obtain ⟨A, c, rfl, hsl, hge⟩:=own_sl h
 cases A with
 | none => simp [Value.ownBlock] at hs
 | some a => exact ⟨a, c, rfl, hsl, (hge a rfl).1, (hge a rfl).2⟩
theorem own_grown {v v' : Value} {m : Nat} (hs : v.ownBlock.isSome = true) (h : v'.ownBlock = v.ownBlock ∨ v'.ownBlock = some m) : v'.ownBlock.isSome = true:=by
 rcases h with h | h
 ·rw [h]; exact hs
 ·rw [h]; rfl
end Go.Proofs.YtmpjikihnmagoaaGreatDoor
