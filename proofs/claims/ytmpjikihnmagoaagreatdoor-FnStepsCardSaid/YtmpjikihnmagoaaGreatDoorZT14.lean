/-
  The methods behind the encoders' and decoders' interfaces, found by name. Conditions: a flexible one lies over the other.
-/
import Derived.Test.YtmpjikihnmagoaaGreatDoorZT13
namespace Go.Proofs.YtmpjikihnmagoaaGreatDoor
open Go.RowKit
theorem fp_putInt8 (a : Addr) (w : World) : (Go.method 483 160 (.pointer (some a)) "pub-kestrel/pub/sarama.putInt8").run Tryz.prog w = .ok (211, .pointer (some a)) w:=by kernel_rfl
theorem fpa_putInt8 (a : Addr) (w : World) : (nilAhead 483 160 (.pointer (some a)) "pub-kestrel/pub/sarama.putInt8").run Tryz.prog w = .ok (some false) w:=by kernel_rfl
theorem fp_putInt16 (a : Addr) (w : World) : (Go.method 483 160 (.pointer (some a)) "pub-kestrel/pub/sarama.putInt16").run Tryz.prog w = .ok (206, .pointer (some a)) w:=by kernel_rfl
theorem fpa_putInt16 (a : Addr) (w : World) : (nilAhead 483 160 (.pointer (some a)) "pub-kestrel/pub/sarama.putInt16").run Tryz.prog w = .ok (some false) w:=by kernel_rfl
theorem fp_putInt32 (a : Addr) (w : World) : (Go.method 483 160 (.pointer (some a)) "pub-kestrel/pub/sarama.putInt32").run Tryz.prog w = .ok (207, .pointer (some a)) w:=by kernel_rfl
theorem fpa_putInt32 (a : Addr) (w : World) : (nilAhead 483 160 (.pointer (some a)) "pub-kestrel/pub/sarama.putInt32").run Tryz.prog w = .ok (some false) w:=by kernel_rfl
theorem fp_putInt64 (a : Addr) (w : World) : (Go.method 483 160 (.pointer (some a)) "pub-kestrel/pub/sarama.putInt64").run Tryz.prog w = .ok (209, .pointer (some a)) w:=by kernel_rfl
theorem fpa_putInt64 (a : Addr) (w : World) : (nilAhead 483 160 (.pointer (some a)) "pub-kestrel/pub/sarama.putInt64").run Tryz.prog w = .ok (some false) w:=by kernel_rfl
theorem fp_putVarint (a : Addr) (w : World) : (Go.method 483 160 (.pointer (some a)) "pub-kestrel/pub/sarama.putVarint").run Tryz.prog w = .ok (217, .pointer (some a)) w:=by kernel_rfl
theorem fpa_putVarint (a : Addr) (w : World) : (nilAhead 483 160 (.pointer (some a)) "pub-kestrel/pub/sarama.putVarint").run Tryz.prog w = .ok (some false) w:=by kernel_rfl
theorem fp_putUVarint (a : Addr) (w : World) : (Go.method 483 160 (.pointer (some a)) "pub-kestrel/pub/sarama.putUVarint").run Tryz.prog w = .ok (216, .pointer (some a)) w:=by kernel_rfl
theorem fpa_putUVarint (a : Addr) (w : World) : (nilAhead 483 160 (.pointer (some a)) "pub-kestrel/pub/sarama.putUVarint").run Tryz.prog w = .ok (some false) w:=by kernel_rfl
theorem fp_putFloat64 (a : Addr) (w : World) : (Go.method 483 160 (.pointer (some a)) "pub-kestrel/pub/sarama.putFloat64").run Tryz.prog w = .ok (205, .pointer (some a)) w:=by kernel_rfl
theorem fpa_putFloat64 (a : Addr) (w : World) : (nilAhead 483 160 (.pointer (some a)) "pub-kestrel/pub/sarama.putFloat64").run Tryz.prog w = .ok (some false) w:=by kernel_rfl
theorem fp_putBool (a : Addr) (w : World) : (Go.method 483 160 (.pointer (some a)) "pub-kestrel/pub/sarama.putBool").run Tryz.prog w = .ok (202, .pointer (some a)) w:=by kernel_rfl
theorem fpa_putBool (a : Addr) (w : World) : (nilAhead 483 160 (.pointer (some a)) "pub-kestrel/pub/sarama.putBool").run Tryz.prog w = .ok (some false) w:=by kernel_rfl
theorem fp_putArrayLength (a : Addr) (w : World) : (Go.method 483 160 (.pointer (some a)) "pub-kestrel/pub/sarama.putArrayLength").run Tryz.prog w = .ok (201, .pointer (some a)) w:=by kernel_rfl
theorem fpa_putArrayLength (a : Addr) (w : World) : (nilAhead 483 160 (.pointer (some a)) "pub-kestrel/pub/sarama.putArrayLength").run Tryz.prog w = .ok (some false) w:=by kernel_rfl
theorem fp_putString (a : Addr) (w : World) : (Go.method 483 160 (.pointer (some a)) "pub-kestrel/pub/sarama.putString").run Tryz.prog w = .ok (214, .pointer (some a)) w:=by kernel_rfl
theorem fpa_putString (a : Addr) (w : World) : (nilAhead 483 160 (.pointer (some a)) "pub-kestrel/pub/sarama.putString").run Tryz.prog w = .ok (some false) w:=by kernel_rfl
theorem fp_putNullableString (a : Addr) (w : World) : (Go.method 483 160 (.pointer (some a)) "pub-kestrel/pub/sarama.putNullableString").run Tryz.prog w = .ok (212, .pointer (some a)) w:=by kernel_rfl
theorem fpa_putNullableString (a : Addr) (w : World) : (nilAhead 483 160 (.pointer (some a)) "pub-kestrel/pub/sarama.putNullableString").run Tryz.prog w = .ok (some false) w:=by kernel_rfl
theorem fp_putBytes (a : Addr) (w : World) : (Go.method 483 160 (.pointer (some a)) "pub-kestrel/pub/sarama.putBytes").run Tryz.prog w = .ok (203, .pointer (some a)) w:=by kernel_rfl
theorem fpa_putBytes (a : Addr) (w : World) : (nilAhead 483 160 (.pointer (some a)) "pub-kestrel/pub/sarama.putBytes").run Tryz.prog w = .ok (some false) w:=by kernel_rfl
theorem fp_putVarintBytes (a : Addr) (w : World) : (Go.method 483 160 (.pointer (some a)) "pub-kestrel/pub/sarama.putVarintBytes").run Tryz.prog w = .ok (218, .pointer (some a)) w:=by kernel_rfl
theorem fpa_putVarintBytes (a : Addr) (w : World) : (nilAhead 483 160 (.pointer (some a)) "pub-kestrel/pub/sarama.putVarintBytes").run Tryz.prog w = .ok (some false) w:=by kernel_rfl
theorem fp_putStringArray (a : Addr) (w : World) : (Go.method 483 160 (.pointer (some a)) "pub-kestrel/pub/sarama.putStringArray").run Tryz.prog w = .ok (215, .pointer (some a)) w:=by kernel_rfl
theorem fpa_putStringArray (a : Addr) (w : World) : (nilAhead 483 160 (.pointer (some a)) "pub-kestrel/pub/sarama.putStringArray").run Tryz.prog w = .ok (some false) w:=by kernel_rfl
theorem fp_putInt32Array (a : Addr) (w : World) : (Go.method 483 160 (.pointer (some a)) "pub-kestrel/pub/sarama.putInt32Array").run Tryz.prog w = .ok (208, .pointer (some a)) w:=by kernel_rfl
theorem fpa_putInt32Array (a : Addr) (w : World) : (nilAhead 483 160 (.pointer (some a)) "pub-kestrel/pub/sarama.putInt32Array").run Tryz.prog w = .ok (some false) w:=by kernel_rfl
theorem fp_putInt64Array (a : Addr) (w : World) : (Go.method 483 160 (.pointer (some a)) "pub-kestrel/pub/sarama.putInt64Array").run Tryz.prog w = .ok (210, .pointer (some a)) w:=by kernel_rfl
theorem fpa_putInt64Array (a : Addr) (w : World) : (nilAhead 483 160 (.pointer (some a)) "pub-kestrel/pub/sarama.putInt64Array").run Tryz.prog w = .ok (some false) w:=by kernel_rfl
theorem fp_putRawBytes (a : Addr) (w : World) : (Go.method 483 160 (.pointer (some a)) "pub-kestrel/pub/sarama.putRawBytes").run Tryz.prog w = .ok (213, .pointer (some a)) w:=by kernel_rfl
theorem fpa_putRawBytes (a : Addr) (w : World) : (nilAhead 483 160 (.pointer (some a)) "pub-kestrel/pub/sarama.putRawBytes").run Tryz.prog w = .ok (some false) w:=by kernel_rfl
theorem fr_putInt8 (a : Addr) (w : World) : (Go.method 483 172 (.pointer (some a)) "pub-kestrel/pub/sarama.putInt8").run Tryz.prog w = .ok (250, .pointer (some a)) w:=by kernel_rfl
theorem fra_putInt8 (a : Addr) (w : World) : (nilAhead 483 172 (.pointer (some a)) "pub-kestrel/pub/sarama.putInt8").run Tryz.prog w = .ok (some false) w:=by kernel_rfl
theorem fr_putInt16 (a : Addr) (w : World) : (Go.method 483 172 (.pointer (some a)) "pub-kestrel/pub/sarama.putInt16").run Tryz.prog w = .ok (245, .pointer (some a)) w:=by kernel_rfl
theorem fra_putInt16 (a : Addr) (w : World) : (nilAhead 483 172 (.pointer (some a)) "pub-kestrel/pub/sarama.putInt16").run Tryz.prog w = .ok (some false) w:=by kernel_rfl
theorem fr_putInt32 (a : Addr) (w : World) : (Go.method 483 172 (.pointer (some a)) "pub-kestrel/pub/sarama.putInt32").run Tryz.prog w = .ok (246, .pointer (some a)) w:=by kernel_rfl
theorem fra_putInt32 (a : Addr) (w : World) : (nilAhead 483 172 (.pointer (some a)) "pub-kestrel/pub/sarama.putInt32").run Tryz.prog w = .ok (some false) w:=by kernel_rfl
theorem fr_putInt64 (a : Addr) (w : World) : (Go.method 483 172 (.pointer (some a)) "pub-kestrel/pub/sarama.putInt64").run Tryz.prog w = .ok (248, .pointer (some a)) w:=by kernel_rfl
theorem fra_putInt64 (a : Addr) (w : World) : (nilAhead 483 172 (.pointer (some a)) "pub-kestrel/pub/sarama.putInt64").run Tryz.prog w = .ok (some false) w:=by kernel_rfl
theorem fr_putVarint (a : Addr) (w : World) : (Go.method 483 172 (.pointer (some a)) "pub-kestrel/pub/sarama.putVarint").run Tryz.prog w = .ok (259, .pointer (some a)) w:=by kernel_rfl
theorem fra_putVarint (a : Addr) (w : World) : (nilAhead 483 172 (.pointer (some a)) "pub-kestrel/pub/sarama.putVarint").run Tryz.prog w = .ok (some false) w:=by kernel_rfl
theorem fr_putUVarint (a : Addr) (w : World) : (Go.method 483 172 (.pointer (some a)) "pub-kestrel/pub/sarama.putUVarint").run Tryz.prog w = .ok (257, .pointer (some a)) w:=by kernel_rfl
theorem fra_putUVarint (a : Addr) (w : World) : (nilAhead 483 172 (.pointer (some a)) "pub-kestrel/pub/sarama.putUVarint").run Tryz.prog w = .ok (some false) w:=by kernel_rfl
theorem fr_putFloat64 (a : Addr) (w : World) : (Go.method 483 172 (.pointer (some a)) "pub-kestrel/pub/sarama.putFloat64").run Tryz.prog w = .ok (244, .pointer (some a)) w:=by kernel_rfl
theorem fra_putFloat64 (a : Addr) (w : World) : (nilAhead 483 172 (.pointer (some a)) "pub-kestrel/pub/sarama.putFloat64").run Tryz.prog w = .ok (some false) w:=by kernel_rfl
theorem fr_putBool (a : Addr) (w : World) : (Go.method 483 172 (.pointer (some a)) "pub-kestrel/pub/sarama.putBool").run Tryz.prog w = .ok (240, .pointer (some a)) w:=by kernel_rfl
theorem fra_putBool (a : Addr) (w : World) : (nilAhead 483 172 (.pointer (some a)) "pub-kestrel/pub/sarama.putBool").run Tryz.prog w = .ok (some false) w:=by kernel_rfl
theorem fr_putArrayLength (a : Addr) (w : World) : (Go.method 483 172 (.pointer (some a)) "pub-kestrel/pub/sarama.putArrayLength").run Tryz.prog w = .ok (239, .pointer (some a)) w:=by kernel_rfl
theorem fra_putArrayLength (a : Addr) (w : World) : (nilAhead 483 172 (.pointer (some a)) "pub-kestrel/pub/sarama.putArrayLength").run Tryz.prog w = .ok (some false) w:=by kernel_rfl
theorem fr_putString (a : Addr) (w : World) : (Go.method 483 172 (.pointer (some a)) "pub-kestrel/pub/sarama.putString").run Tryz.prog w = .ok (255, .pointer (some a)) w:=by kernel_rfl
theorem fra_putString (a : Addr) (w : World) : (nilAhead 483 172 (.pointer (some a)) "pub-kestrel/pub/sarama.putString").run Tryz.prog w = .ok (some false) w:=by kernel_rfl
theorem fr_putNullableString (a : Addr) (w : World) : (Go.method 483 172 (.pointer (some a)) "pub-kestrel/pub/sarama.putNullableString").run Tryz.prog w = .ok (253, .pointer (some a)) w:=by kernel_rfl
theorem fra_putNullableString (a : Addr) (w : World) : (nilAhead 483 172 (.pointer (some a)) "pub-kestrel/pub/sarama.putNullableString").run Tryz.prog w = .ok (some false) w:=by kernel_rfl
theorem fr_putBytes (a : Addr) (w : World) : (Go.method 483 172 (.pointer (some a)) "pub-kestrel/pub/sarama.putBytes").run Tryz.prog w = .ok (241, .pointer (some a)) w:=by kernel_rfl
theorem fra_putBytes (a : Addr) (w : World) : (nilAhead 483 172 (.pointer (some a)) "pub-kestrel/pub/sarama.putBytes").run Tryz.prog w = .ok (some false) w:=by kernel_rfl
theorem fr_putVarintBytes (a : Addr) (w : World) : (Go.method 483 172 (.pointer (some a)) "pub-kestrel/pub/sarama.putVarintBytes").run Tryz.prog w = .ok (260, .pointer (some a)) w:=by kernel_rfl
theorem fra_putVarintBytes (a : Addr) (w : World) : (nilAhead 483 172 (.pointer (some a)) "pub-kestrel/pub/sarama.putVarintBytes").run Tryz.prog w = .ok (some false) w:=by kernel_rfl
theorem fr_putStringArray (a : Addr) (w : World) : (Go.method 483 172 (.pointer (some a)) "pub-kestrel/pub/sarama.putStringArray").run Tryz.prog w = .ok (256, .pointer (some a)) w:=by kernel_rfl
theorem fra_putStringArray (a : Addr) (w : World) : (nilAhead 483 172 (.pointer (some a)) "pub-kestrel/pub/sarama.putStringArray").run Tryz.prog w = .ok (some false) w:=by kernel_rfl
theorem fr_putInt32Array (a : Addr) (w : World) : (Go.method 483 172 (.pointer (some a)) "pub-kestrel/pub/sarama.putInt32Array").run Tryz.prog w = .ok (247, .pointer (some a)) w:=by kernel_rfl
theorem fra_putInt32Array (a : Addr) (w : World) : (nilAhead 483 172 (.pointer (some a)) "pub-kestrel/pub/sarama.putInt32Array").run Tryz.prog w = .ok (some false) w:=by kernel_rfl
theorem fr_putInt64Array (a : Addr) (w : World) : (Go.method 483 172 (.pointer (some a)) "pub-kestrel/pub/sarama.putInt64Array").run Tryz.prog w = .ok (249, .pointer (some a)) w:=by kernel_rfl
theorem fra_putInt64Array (a : Addr) (w : World) : (nilAhead 483 172 (.pointer (some a)) "pub-kestrel/pub/sarama.putInt64Array").run Tryz.prog w = .ok (some false) w:=by kernel_rfl
theorem fr_putRawBytes (a : Addr) (w : World) : (Go.method 483 172 (.pointer (some a)) "pub-kestrel/pub/sarama.putRawBytes").run Tryz.prog w = .ok (254, .pointer (some a)) w:=by kernel_rfl
theorem fra_putRawBytes (a : Addr) (w : World) : (nilAhead 483 172 (.pointer (some a)) "pub-kestrel/pub/sarama.putRawBytes").run Tryz.prog w = .ok (some false) w:=by kernel_rfl
theorem fd_getInt8 (a : Addr) (w : World) : (Go.method 483 148 (.pointer (some a)) "pub-kestrel/pub/sarama.getInt8").run Tryz.prog w = .ok (161, .pointer (some a)) w:=by kernel_rfl
theorem fda_getInt8 (a : Addr) (w : World) : (nilAhead 483 148 (.pointer (some a)) "pub-kestrel/pub/sarama.getInt8").run Tryz.prog w = .ok (some false) w:=by kernel_rfl
theorem fd_getInt16 (a : Addr) (w : World) : (Go.method 483 148 (.pointer (some a)) "pub-kestrel/pub/sarama.getInt16").run Tryz.prog w = .ok (156, .pointer (some a)) w:=by kernel_rfl
theorem fda_getInt16 (a : Addr) (w : World) : (nilAhead 483 148 (.pointer (some a)) "pub-kestrel/pub/sarama.getInt16").run Tryz.prog w = .ok (some false) w:=by kernel_rfl
theorem fd_getInt32 (a : Addr) (w : World) : (Go.method 483 148 (.pointer (some a)) "pub-kestrel/pub/sarama.getInt32").run Tryz.prog w = .ok (157, .pointer (some a)) w:=by kernel_rfl
theorem fda_getInt32 (a : Addr) (w : World) : (nilAhead 483 148 (.pointer (some a)) "pub-kestrel/pub/sarama.getInt32").run Tryz.prog w = .ok (some false) w:=by kernel_rfl
theorem fd_getInt64 (a : Addr) (w : World) : (Go.method 483 148 (.pointer (some a)) "pub-kestrel/pub/sarama.getInt64").run Tryz.prog w = .ok (159, .pointer (some a)) w:=by kernel_rfl
theorem fda_getInt64 (a : Addr) (w : World) : (nilAhead 483 148 (.pointer (some a)) "pub-kestrel/pub/sarama.getInt64").run Tryz.prog w = .ok (some false) w:=by kernel_rfl
theorem fd_getVarint (a : Addr) (w : World) : (Go.method 483 148 (.pointer (some a)) "pub-kestrel/pub/sarama.getVarint").run Tryz.prog w = .ok (167, .pointer (some a)) w:=by kernel_rfl
theorem fda_getVarint (a : Addr) (w : World) : (nilAhead 483 148 (.pointer (some a)) "pub-kestrel/pub/sarama.getVarint").run Tryz.prog w = .ok (some false) w:=by kernel_rfl
theorem fd_getUVarint (a : Addr) (w : World) : (Go.method 483 148 (.pointer (some a)) "pub-kestrel/pub/sarama.getUVarint").run Tryz.prog w = .ok (166, .pointer (some a)) w:=by kernel_rfl
theorem fda_getUVarint (a : Addr) (w : World) : (nilAhead 483 148 (.pointer (some a)) "pub-kestrel/pub/sarama.getUVarint").run Tryz.prog w = .ok (some false) w:=by kernel_rfl
theorem fd_getFloat64 (a : Addr) (w : World) : (Go.method 483 148 (.pointer (some a)) "pub-kestrel/pub/sarama.getFloat64").run Tryz.prog w = .ok (155, .pointer (some a)) w:=by kernel_rfl
theorem fda_getFloat64 (a : Addr) (w : World) : (nilAhead 483 148 (.pointer (some a)) "pub-kestrel/pub/sarama.getFloat64").run Tryz.prog w = .ok (some false) w:=by kernel_rfl
theorem fd_getBool (a : Addr) (w : World) : (Go.method 483 148 (.pointer (some a)) "pub-kestrel/pub/sarama.getBool").run Tryz.prog w = .ok (153, .pointer (some a)) w:=by kernel_rfl
theorem fda_getBool (a : Addr) (w : World) : (nilAhead 483 148 (.pointer (some a)) "pub-kestrel/pub/sarama.getBool").run Tryz.prog w = .ok (some false) w:=by kernel_rfl
theorem fd_getArrayLength (a : Addr) (w : World) : (Go.method 483 148 (.pointer (some a)) "pub-kestrel/pub/sarama.getArrayLength").run Tryz.prog w = .ok (152, .pointer (some a)) w:=by kernel_rfl
theorem fda_getArrayLength (a : Addr) (w : World) : (nilAhead 483 148 (.pointer (some a)) "pub-kestrel/pub/sarama.getArrayLength").run Tryz.prog w = .ok (some false) w:=by kernel_rfl
theorem fd_getString (a : Addr) (w : World) : (Go.method 483 148 (.pointer (some a)) "pub-kestrel/pub/sarama.getString").run Tryz.prog w = .ok (164, .pointer (some a)) w:=by kernel_rfl
theorem fda_getString (a : Addr) (w : World) : (nilAhead 483 148 (.pointer (some a)) "pub-kestrel/pub/sarama.getString").run Tryz.prog w = .ok (some false) w:=by kernel_rfl
theorem fd_getNullableString (a : Addr) (w : World) : (Go.method 483 148 (.pointer (some a)) "pub-kestrel/pub/sarama.getNullableString").run Tryz.prog w = .ok (162, .pointer (some a)) w:=by kernel_rfl
theorem fda_getNullableString (a : Addr) (w : World) : (nilAhead 483 148 (.pointer (some a)) "pub-kestrel/pub/sarama.getNullableString").run Tryz.prog w = .ok (some false) w:=by kernel_rfl
theorem fd_getBytes (a : Addr) (w : World) : (Go.method 483 148 (.pointer (some a)) "pub-kestrel/pub/sarama.getBytes").run Tryz.prog w = .ok (154, .pointer (some a)) w:=by kernel_rfl
theorem fda_getBytes (a : Addr) (w : World) : (nilAhead 483 148 (.pointer (some a)) "pub-kestrel/pub/sarama.getBytes").run Tryz.prog w = .ok (some false) w:=by kernel_rfl
theorem fd_getVarintBytes (a : Addr) (w : World) : (Go.method 483 148 (.pointer (some a)) "pub-kestrel/pub/sarama.getVarintBytes").run Tryz.prog w = .ok (168, .pointer (some a)) w:=by kernel_rfl
theorem fda_getVarintBytes (a : Addr) (w : World) : (nilAhead 483 148 (.pointer (some a)) "pub-kestrel/pub/sarama.getVarintBytes").run Tryz.prog w = .ok (some false) w:=by kernel_rfl
theorem fd_getStringArray (a : Addr) (w : World) : (Go.method 483 148 (.pointer (some a)) "pub-kestrel/pub/sarama.getStringArray").run Tryz.prog w = .ok (165, .pointer (some a)) w:=by kernel_rfl
theorem fda_getStringArray (a : Addr) (w : World) : (nilAhead 483 148 (.pointer (some a)) "pub-kestrel/pub/sarama.getStringArray").run Tryz.prog w = .ok (some false) w:=by kernel_rfl
theorem fd_getInt32Array (a : Addr) (w : World) : (Go.method 483 148 (.pointer (some a)) "pub-kestrel/pub/sarama.getInt32Array").run Tryz.prog w = .ok (158, .pointer (some a)) w:=by kernel_rfl
theorem fda_getInt32Array (a : Addr) (w : World) : (nilAhead 483 148 (.pointer (some a)) "pub-kestrel/pub/sarama.getInt32Array").run Tryz.prog w = .ok (some false) w:=by kernel_rfl
theorem fd_getInt64Array (a : Addr) (w : World) : (Go.method 483 148 (.pointer (some a)) "pub-kestrel/pub/sarama.getInt64Array").run Tryz.prog w = .ok (160, .pointer (some a)) w:=by kernel_rfl
theorem fda_getInt64Array (a : Addr) (w : World) : (nilAhead 483 148 (.pointer (some a)) "pub-kestrel/pub/sarama.getInt64Array").run Tryz.prog w = .ok (some false) w:=by kernel_rfl
theorem fd_getRawBytes (a : Addr) (w : World) : (Go.method 483 148 (.pointer (some a)) "pub-kestrel/pub/sarama.getRawBytes").run Tryz.prog w = .ok (163, .pointer (some a)) w:=by kernel_rfl
theorem fda_getRawBytes (a : Addr) (w : World) : (nilAhead 483 148 (.pointer (some a)) "pub-kestrel/pub/sarama.getRawBytes").run Tryz.prog w = .ok (some false) w:=by kernel_rfl
theorem fd_remaining (a : Addr) (w : World) : (Go.method 483 148 (.pointer (some a)) "pub-kestrel/pub/sarama.remaining").run Tryz.prog w = .ok (172, .pointer (some a)) w:=by kernel_rfl
theorem fda_remaining (a : Addr) (w : World) : (nilAhead 483 148 (.pointer (some a)) "pub-kestrel/pub/sarama.remaining").run Tryz.prog w = .ok (some false) w:=by kernel_rfl
theorem fpf_putArrayLength (a : Addr) (w : World) : (Go.method 483 166 (.pointer (some a)) "pub-kestrel/pub/sarama.putArrayLength").run Tryz.prog w = .ok (222, .pointer (some a)) w:=by kernel_rfl
theorem fpfa_putArrayLength (a : Addr) (w : World) : (nilAhead 483 166 (.pointer (some a)) "pub-kestrel/pub/sarama.putArrayLength").run Tryz.prog w = .ok (some false) w:=by kernel_rfl
theorem fpf_putString (a : Addr) (w : World) : (Go.method 483 166 (.pointer (some a)) "pub-kestrel/pub/sarama.putString").run Tryz.prog w = .ok (231, .pointer (some a)) w:=by kernel_rfl
theorem fpfa_putString (a : Addr) (w : World) : (nilAhead 483 166 (.pointer (some a)) "pub-kestrel/pub/sarama.putString").run Tryz.prog w = .ok (some false) w:=by kernel_rfl
theorem fpf_putNullableString (a : Addr) (w : World) : (Go.method 483 166 (.pointer (some a)) "pub-kestrel/pub/sarama.putNullableString").run Tryz.prog w = .ok (230, .pointer (some a)) w:=by kernel_rfl
theorem fpfa_putNullableString (a : Addr) (w : World) : (nilAhead 483 166 (.pointer (some a)) "pub-kestrel/pub/sarama.putNullableString").run Tryz.prog w = .ok (some false) w:=by kernel_rfl
theorem fpf_putBytes (a : Addr) (w : World) : (Go.method 483 166 (.pointer (some a)) "pub-kestrel/pub/sarama.putBytes").run Tryz.prog w = .ok (223, .pointer (some a)) w:=by kernel_rfl
theorem fpfa_putBytes (a : Addr) (w : World) : (nilAhead 483 166 (.pointer (some a)) "pub-kestrel/pub/sarama.putBytes").run Tryz.prog w = .ok (some false) w:=by kernel_rfl
theorem fpf_putStringArray (a : Addr) (w : World) : (Go.method 483 166 (.pointer (some a)) "pub-kestrel/pub/sarama.putStringArray").run Tryz.prog w = .ok (232, .pointer (some a)) w:=by kernel_rfl
theorem fpfa_putStringArray (a : Addr) (w : World) : (nilAhead 483 166 (.pointer (some a)) "pub-kestrel/pub/sarama.putStringArray").run Tryz.prog w = .ok (some false) w:=by kernel_rfl
theorem fpf_putInt32Array (a : Addr) (w : World) : (Go.method 483 166 (.pointer (some a)) "pub-kestrel/pub/sarama.putInt32Array").run Tryz.prog w = .ok (226, .pointer (some a)) w:=by kernel_rfl
theorem fpfa_putInt32Array (a : Addr) (w : World) : (nilAhead 483 166 (.pointer (some a)) "pub-kestrel/pub/sarama.putInt32Array").run Tryz.prog w = .ok (some false) w:=by kernel_rfl
theorem fpf_putInt64Array (a : Addr) (w : World) : (Go.method 483 166 (.pointer (some a)) "pub-kestrel/pub/sarama.putInt64Array").run Tryz.prog w = .ok (227, .pointer (some a)) w:=by kernel_rfl
theorem fpfa_putInt64Array (a : Addr) (w : World) : (nilAhead 483 166 (.pointer (some a)) "pub-kestrel/pub/sarama.putInt64Array").run Tryz.prog w = .ok (some false) w:=by kernel_rfl
theorem frf_putArrayLength (a : Addr) (w : World) : (Go.method 483 175 (.pointer (some a)) "pub-kestrel/pub/sarama.putArrayLength").run Tryz.prog w = .ok (264, .pointer (some a)) w:=by kernel_rfl
theorem frfa_putArrayLength (a : Addr) (w : World) : (nilAhead 483 175 (.pointer (some a)) "pub-kestrel/pub/sarama.putArrayLength").run Tryz.prog w = .ok (some false) w:=by kernel_rfl
theorem frf_putString (a : Addr) (w : World) : (Go.method 483 175 (.pointer (some a)) "pub-kestrel/pub/sarama.putString").run Tryz.prog w = .ok (271, .pointer (some a)) w:=by kernel_rfl
theorem frfa_putString (a : Addr) (w : World) : (nilAhead 483 175 (.pointer (some a)) "pub-kestrel/pub/sarama.putString").run Tryz.prog w = .ok (some false) w:=by kernel_rfl
theorem frf_putNullableString (a : Addr) (w : World) : (Go.method 483 175 (.pointer (some a)) "pub-kestrel/pub/sarama.putNullableString").run Tryz.prog w = .ok (270, .pointer (some a)) w:=by kernel_rfl
theorem frfa_putNullableString (a : Addr) (w : World) : (nilAhead 483 175 (.pointer (some a)) "pub-kestrel/pub/sarama.putNullableString").run Tryz.prog w = .ok (some false) w:=by kernel_rfl
theorem frf_putBytes (a : Addr) (w : World) : (Go.method 483 175 (.pointer (some a)) "pub-kestrel/pub/sarama.putBytes").run Tryz.prog w = .ok (265, .pointer (some a)) w:=by kernel_rfl
theorem frfa_putBytes (a : Addr) (w : World) : (nilAhead 483 175 (.pointer (some a)) "pub-kestrel/pub/sarama.putBytes").run Tryz.prog w = .ok (some false) w:=by kernel_rfl
theorem frf_putStringArray (a : Addr) (w : World) : (Go.method 483 175 (.pointer (some a)) "pub-kestrel/pub/sarama.putStringArray").run Tryz.prog w = .ok (272, .pointer (some a)) w:=by kernel_rfl
theorem frfa_putStringArray (a : Addr) (w : World) : (nilAhead 483 175 (.pointer (some a)) "pub-kestrel/pub/sarama.putStringArray").run Tryz.prog w = .ok (some false) w:=by kernel_rfl
theorem frf_putInt32Array (a : Addr) (w : World) : (Go.method 483 175 (.pointer (some a)) "pub-kestrel/pub/sarama.putInt32Array").run Tryz.prog w = .ok (267, .pointer (some a)) w:=by kernel_rfl
theorem frfa_putInt32Array (a : Addr) (w : World) : (nilAhead 483 175 (.pointer (some a)) "pub-kestrel/pub/sarama.putInt32Array").run Tryz.prog w = .ok (some false) w:=by kernel_rfl
theorem frf_putInt64Array (a : Addr) (w : World) : (Go.method 483 175 (.pointer (some a)) "pub-kestrel/pub/sarama.putInt64Array").run Tryz.prog w = .ok (268, .pointer (some a)) w:=by kernel_rfl
theorem frfa_putInt64Array (a : Addr) (w : World) : (nilAhead 483 175 (.pointer (some a)) "pub-kestrel/pub/sarama.putInt64Array").run Tryz.prog w = .ok (some false) w:=by kernel_rfl
theorem fdf_getArrayLength (a : Addr) (w : World) : (Go.method 483 154 (.pointer (some a)) "pub-kestrel/pub/sarama.getArrayLength").run Tryz.prog w = .ok (180, .pointer (some a)) w:=by kernel_rfl
theorem fdfa_getArrayLength (a : Addr) (w : World) : (nilAhead 483 154 (.pointer (some a)) "pub-kestrel/pub/sarama.getArrayLength").run Tryz.prog w = .ok (some false) w:=by kernel_rfl
theorem fdf_getString (a : Addr) (w : World) : (Go.method 483 154 (.pointer (some a)) "pub-kestrel/pub/sarama.getString").run Tryz.prog w = .ok (189, .pointer (some a)) w:=by kernel_rfl
theorem fdfa_getString (a : Addr) (w : World) : (nilAhead 483 154 (.pointer (some a)) "pub-kestrel/pub/sarama.getString").run Tryz.prog w = .ok (some false) w:=by kernel_rfl
theorem fdf_getNullableString (a : Addr) (w : World) : (Go.method 483 154 (.pointer (some a)) "pub-kestrel/pub/sarama.getNullableString").run Tryz.prog w = .ok (188, .pointer (some a)) w:=by kernel_rfl
theorem fdfa_getNullableString (a : Addr) (w : World) : (nilAhead 483 154 (.pointer (some a)) "pub-kestrel/pub/sarama.getNullableString").run Tryz.prog w = .ok (some false) w:=by kernel_rfl
theorem fdf_getBytes (a : Addr) (w : World) : (Go.method 483 154 (.pointer (some a)) "pub-kestrel/pub/sarama.getBytes").run Tryz.prog w = .ok (181, .pointer (some a)) w:=by kernel_rfl
theorem fdfa_getBytes (a : Addr) (w : World) : (nilAhead 483 154 (.pointer (some a)) "pub-kestrel/pub/sarama.getBytes").run Tryz.prog w = .ok (some false) w:=by kernel_rfl
theorem fdf_getStringArray (a : Addr) (w : World) : (Go.method 483 154 (.pointer (some a)) "pub-kestrel/pub/sarama.getStringArray").run Tryz.prog w = .ok (190, .pointer (some a)) w:=by kernel_rfl
theorem fdfa_getStringArray (a : Addr) (w : World) : (nilAhead 483 154 (.pointer (some a)) "pub-kestrel/pub/sarama.getStringArray").run Tryz.prog w = .ok (some false) w:=by kernel_rfl
theorem fdf_getInt32Array (a : Addr) (w : World) : (Go.method 483 154 (.pointer (some a)) "pub-kestrel/pub/sarama.getInt32Array").run Tryz.prog w = .ok (184, .pointer (some a)) w:=by kernel_rfl
theorem fdfa_getInt32Array (a : Addr) (w : World) : (nilAhead 483 154 (.pointer (some a)) "pub-kestrel/pub/sarama.getInt32Array").run Tryz.prog w = .ok (some false) w:=by kernel_rfl
theorem fdf_getInt64Array (a : Addr) (w : World) : (Go.method 483 154 (.pointer (some a)) "pub-kestrel/pub/sarama.getInt64Array").run Tryz.prog w = .ok (185, .pointer (some a)) w:=by kernel_rfl
theorem fdfa_getInt64Array (a : Addr) (w : World) : (nilAhead 483 154 (.pointer (some a)) "pub-kestrel/pub/sarama.getInt64Array").run Tryz.prog w = .ok (some false) w:=by kernel_rfl
theorem prom166 {q p : Nat} {w : World} (h : w.cell? ⟨q, 0, none⟩ = some (.pointer (some ⟨p, 0, none⟩))) (nm : String) (f : FuncId) (k : (Array.find? (fun x => x.name == nm) Tryz.t166.methods).map (fun m => (m.func, m.path.toList.map (fun s => (s.struct, s.index, s.deref)))) = some (some (f, true), [(168, 0, true)])) : (Go.method 483 166 (.pointer (some ⟨q, 0, none⟩)) nm).run Tryz.prog w = .ok (f, .pointer (some ⟨p, 0, none⟩)) w:=by
 cases hm : Array.find? (fun x => x.name == nm) Tryz.t166.methods with
 | none => rw [hm] at k; cases k
 | some m =>
  rw [hm] at k
  obtain ⟨hf, hp⟩:=Prod.mk.injEq .. ▸ Option.some.inj k
  obtain ⟨s, hps⟩ : ∃ s, m.path.toList = [s]:=by
   cases hl : m.path.toList with
   | nil => rw [hl] at hp; cases hp
   | cons s r => cases r with
    | nil => exact ⟨s, rfl⟩
    | cons _ _ => rw [hl] at hp; simp at hp
  rw [hps] at hp
  simp only [List.map_cons, List.map_nil, List.cons.injEq, Prod.mk.injEq, and_true] at hp
  obtain ⟨h1, h2, h3⟩:=hp
  have hu : ∀ w, (underlying 168).run Tryz.prog w = .ok (.struct #[{name:= "prepEncoder", type:=160, offset:=0, embedded:=true,tag:= "",pkgPath:= "pub-kestrel/pub/sarama", byteOffset:=0 }]) w:=fun w => by rw [run_underlying Tryz.underlying168]
  unfold Go.method
  simp [go_sem, hm, hf, hps, follow, Place.get, receiverAt, h1, h2, h3, h, hu, loadVar]
theorem fpf_putInt8 {q p : Nat} {w : World} (h : w.cell? ⟨q, 0, none⟩ = some (.pointer (some ⟨p, 0, none⟩))) : (Go.method 483 166 (.pointer (some ⟨q, 0, none⟩)) "pub-kestrel/pub/sarama.putInt8").run Tryz.prog w = .ok (211, .pointer (some ⟨p, 0, none⟩)) w:=prom166 h _ _ (by kernel_rfl)
theorem fpfa_putInt8 (q : Nat) (w : World) : (nilAhead 483 166 (.pointer (some ⟨q, 0, none⟩)) "pub-kestrel/pub/sarama.putInt8").run Tryz.prog w = .ok (some false) w:=by kernel_rfl
theorem fpf_putInt16 {q p : Nat} {w : World} (h : w.cell? ⟨q, 0, none⟩ = some (.pointer (some ⟨p, 0, none⟩))) : (Go.method 483 166 (.pointer (some ⟨q, 0, none⟩)) "pub-kestrel/pub/sarama.putInt16").run Tryz.prog w = .ok (206, .pointer (some ⟨p, 0, none⟩)) w:=prom166 h _ _ (by kernel_rfl)
theorem fpfa_putInt16 (q : Nat) (w : World) : (nilAhead 483 166 (.pointer (some ⟨q, 0, none⟩)) "pub-kestrel/pub/sarama.putInt16").run Tryz.prog w = .ok (some false) w:=by kernel_rfl
theorem fpf_putInt32 {q p : Nat} {w : World} (h : w.cell? ⟨q, 0, none⟩ = some (.pointer (some ⟨p, 0, none⟩))) : (Go.method 483 166 (.pointer (some ⟨q, 0, none⟩)) "pub-kestrel/pub/sarama.putInt32").run Tryz.prog w = .ok (207, .pointer (some ⟨p, 0, none⟩)) w:=prom166 h _ _ (by kernel_rfl)
theorem fpfa_putInt32 (q : Nat) (w : World) : (nilAhead 483 166 (.pointer (some ⟨q, 0, none⟩)) "pub-kestrel/pub/sarama.putInt32").run Tryz.prog w = .ok (some false) w:=by kernel_rfl
theorem fpf_putInt64 {q p : Nat} {w : World} (h : w.cell? ⟨q, 0, none⟩ = some (.pointer (some ⟨p, 0, none⟩))) : (Go.method 483 166 (.pointer (some ⟨q, 0, none⟩)) "pub-kestrel/pub/sarama.putInt64").run Tryz.prog w = .ok (209, .pointer (some ⟨p, 0, none⟩)) w:=prom166 h _ _ (by kernel_rfl)
theorem fpfa_putInt64 (q : Nat) (w : World) : (nilAhead 483 166 (.pointer (some ⟨q, 0, none⟩)) "pub-kestrel/pub/sarama.putInt64").run Tryz.prog w = .ok (some false) w:=by kernel_rfl
theorem fpf_putVarint {q p : Nat} {w : World} (h : w.cell? ⟨q, 0, none⟩ = some (.pointer (some ⟨p, 0, none⟩))) : (Go.method 483 166 (.pointer (some ⟨q, 0, none⟩)) "pub-kestrel/pub/sarama.putVarint").run Tryz.prog w = .ok (217, .pointer (some ⟨p, 0, none⟩)) w:=prom166 h _ _ (by kernel_rfl)
theorem fpfa_putVarint (q : Nat) (w : World) : (nilAhead 483 166 (.pointer (some ⟨q, 0, none⟩)) "pub-kestrel/pub/sarama.putVarint").run Tryz.prog w = .ok (some false) w:=by kernel_rfl
theorem fpf_putUVarint {q p : Nat} {w : World} (h : w.cell? ⟨q, 0, none⟩ = some (.pointer (some ⟨p, 0, none⟩))) : (Go.method 483 166 (.pointer (some ⟨q, 0, none⟩)) "pub-kestrel/pub/sarama.putUVarint").run Tryz.prog w = .ok (216, .pointer (some ⟨p, 0, none⟩)) w:=prom166 h _ _ (by kernel_rfl)
theorem fpfa_putUVarint (q : Nat) (w : World) : (nilAhead 483 166 (.pointer (some ⟨q, 0, none⟩)) "pub-kestrel/pub/sarama.putUVarint").run Tryz.prog w = .ok (some false) w:=by kernel_rfl
theorem fpf_putFloat64 {q p : Nat} {w : World} (h : w.cell? ⟨q, 0, none⟩ = some (.pointer (some ⟨p, 0, none⟩))) : (Go.method 483 166 (.pointer (some ⟨q, 0, none⟩)) "pub-kestrel/pub/sarama.putFloat64").run Tryz.prog w = .ok (205, .pointer (some ⟨p, 0, none⟩)) w:=prom166 h _ _ (by kernel_rfl)
theorem fpfa_putFloat64 (q : Nat) (w : World) : (nilAhead 483 166 (.pointer (some ⟨q, 0, none⟩)) "pub-kestrel/pub/sarama.putFloat64").run Tryz.prog w = .ok (some false) w:=by kernel_rfl
theorem fpf_putBool {q p : Nat} {w : World} (h : w.cell? ⟨q, 0, none⟩ = some (.pointer (some ⟨p, 0, none⟩))) : (Go.method 483 166 (.pointer (some ⟨q, 0, none⟩)) "pub-kestrel/pub/sarama.putBool").run Tryz.prog w = .ok (202, .pointer (some ⟨p, 0, none⟩)) w:=prom166 h _ _ (by kernel_rfl)
theorem fpfa_putBool (q : Nat) (w : World) : (nilAhead 483 166 (.pointer (some ⟨q, 0, none⟩)) "pub-kestrel/pub/sarama.putBool").run Tryz.prog w = .ok (some false) w:=by kernel_rfl
theorem fpf_putVarintBytes {q p : Nat} {w : World} (h : w.cell? ⟨q, 0, none⟩ = some (.pointer (some ⟨p, 0, none⟩))) : (Go.method 483 166 (.pointer (some ⟨q, 0, none⟩)) "pub-kestrel/pub/sarama.putVarintBytes").run Tryz.prog w = .ok (218, .pointer (some ⟨p, 0, none⟩)) w:=prom166 h _ _ (by kernel_rfl)
theorem fpfa_putVarintBytes (q : Nat) (w : World) : (nilAhead 483 166 (.pointer (some ⟨q, 0, none⟩)) "pub-kestrel/pub/sarama.putVarintBytes").run Tryz.prog w = .ok (some false) w:=by kernel_rfl
theorem fpf_putRawBytes {q p : Nat} {w : World} (h : w.cell? ⟨q, 0, none⟩ = some (.pointer (some ⟨p, 0, none⟩))) : (Go.method 483 166 (.pointer (some ⟨q, 0, none⟩)) "pub-kestrel/pub/sarama.putRawBytes").run Tryz.prog w = .ok (213, .pointer (some ⟨p, 0, none⟩)) w:=prom166 h _ _ (by kernel_rfl)
theorem fpfa_putRawBytes (q : Nat) (w : World) : (nilAhead 483 166 (.pointer (some ⟨q, 0, none⟩)) "pub-kestrel/pub/sarama.putRawBytes").run Tryz.prog w = .ok (some false) w:=by kernel_rfl
theorem prom175 {q p : Nat} {w : World} (h : w.cell? ⟨q, 0, none⟩ = some (.pointer (some ⟨p, 0, none⟩))) (nm : String) (f : FuncId) (k : (Array.find? (fun x => x.name == nm) Tryz.t175.methods).map (fun m => (m.func, m.path.toList.map (fun s => (s.struct, s.index, s.deref)))) = some (some (f, true), [(177, 0, true)])) : (Go.method 483 175 (.pointer (some ⟨q, 0, none⟩)) nm).run Tryz.prog w = .ok (f, .pointer (some ⟨p, 0, none⟩)) w:=by
 cases hm : Array.find? (fun x => x.name == nm) Tryz.t175.methods with
 | none => rw [hm] at k; cases k
 | some m =>
  rw [hm] at k
  obtain ⟨hf, hp⟩:=Prod.mk.injEq .. ▸ Option.some.inj k
  obtain ⟨s, hps⟩ : ∃ s, m.path.toList = [s]:=by
   cases hl : m.path.toList with
   | nil => rw [hl] at hp; cases hp
   | cons s r => cases r with
    | nil => exact ⟨s, rfl⟩
    | cons _ _ => rw [hl] at hp; simp at hp
  rw [hps] at hp
  simp only [List.map_cons, List.map_nil, List.cons.injEq, Prod.mk.injEq, and_true] at hp
  obtain ⟨h1, h2, h3⟩:=hp
  have hu : ∀ w, (underlying 177).run Tryz.prog w = .ok (.struct #[{name:= "realEncoder", type:=172, offset:=0, embedded:=true,tag:= "",pkgPath:= "pub-kestrel/pub/sarama", byteOffset:=0 }]) w:=fun w => by rw [run_underlying Tryz.underlying177]
  unfold Go.method
  simp [go_sem, hm, hf, hps, follow, Place.get, receiverAt, h1, h2, h3, h, hu, loadVar]
theorem frf_putInt8 {q p : Nat} {w : World} (h : w.cell? ⟨q, 0, none⟩ = some (.pointer (some ⟨p, 0, none⟩))) : (Go.method 483 175 (.pointer (some ⟨q, 0, none⟩)) "pub-kestrel/pub/sarama.putInt8").run Tryz.prog w = .ok (250, .pointer (some ⟨p, 0, none⟩)) w:=prom175 h _ _ (by kernel_rfl)
theorem frfa_putInt8 (q : Nat) (w : World) : (nilAhead 483 175 (.pointer (some ⟨q, 0, none⟩)) "pub-kestrel/pub/sarama.putInt8").run Tryz.prog w = .ok (some false) w:=by kernel_rfl
theorem frf_putInt16 {q p : Nat} {w : World} (h : w.cell? ⟨q, 0, none⟩ = some (.pointer (some ⟨p, 0, none⟩))) : (Go.method 483 175 (.pointer (some ⟨q, 0, none⟩)) "pub-kestrel/pub/sarama.putInt16").run Tryz.prog w = .ok (245, .pointer (some ⟨p, 0, none⟩)) w:=prom175 h _ _ (by kernel_rfl)
theorem frfa_putInt16 (q : Nat) (w : World) : (nilAhead 483 175 (.pointer (some ⟨q, 0, none⟩)) "pub-kestrel/pub/sarama.putInt16").run Tryz.prog w = .ok (some false) w:=by kernel_rfl
theorem frf_putInt32 {q p : Nat} {w : World} (h : w.cell? ⟨q, 0, none⟩ = some (.pointer (some ⟨p, 0, none⟩))) : (Go.method 483 175 (.pointer (some ⟨q, 0, none⟩)) "pub-kestrel/pub/sarama.putInt32").run Tryz.prog w = .ok (246, .pointer (some ⟨p, 0, none⟩)) w:=prom175 h _ _ (by kernel_rfl)
theorem frfa_putInt32 (q : Nat) (w : World) : (nilAhead 483 175 (.pointer (some ⟨q, 0, none⟩)) "pub-kestrel/pub/sarama.putInt32").run Tryz.prog w = .ok (some false) w:=by kernel_rfl
theorem frf_putInt64 {q p : Nat} {w : World} (h : w.cell? ⟨q, 0, none⟩ = some (.pointer (some ⟨p, 0, none⟩))) : (Go.method 483 175 (.pointer (some ⟨q, 0, none⟩)) "pub-kestrel/pub/sarama.putInt64").run Tryz.prog w = .ok (248, .pointer (some ⟨p, 0, none⟩)) w:=prom175 h _ _ (by kernel_rfl)
theorem frfa_putInt64 (q : Nat) (w : World) : (nilAhead 483 175 (.pointer (some ⟨q, 0, none⟩)) "pub-kestrel/pub/sarama.putInt64").run Tryz.prog w = .ok (some false) w:=by kernel_rfl
theorem frf_putVarint {q p : Nat} {w : World} (h : w.cell? ⟨q, 0, none⟩ = some (.pointer (some ⟨p, 0, none⟩))) : (Go.method 483 175 (.pointer (some ⟨q, 0, none⟩)) "pub-kestrel/pub/sarama.putVarint").run Tryz.prog w = .ok (259, .pointer (some ⟨p, 0, none⟩)) w:=prom175 h _ _ (by kernel_rfl)
theorem frfa_putVarint (q : Nat) (w : World) : (nilAhead 483 175 (.pointer (some ⟨q, 0, none⟩)) "pub-kestrel/pub/sarama.putVarint").run Tryz.prog w = .ok (some false) w:=by kernel_rfl
theorem frf_putUVarint {q p : Nat} {w : World} (h : w.cell? ⟨q, 0, none⟩ = some (.pointer (some ⟨p, 0, none⟩))) : (Go.method 483 175 (.pointer (some ⟨q, 0, none⟩)) "pub-kestrel/pub/sarama.putUVarint").run Tryz.prog w = .ok (257, .pointer (some ⟨p, 0, none⟩)) w:=prom175 h _ _ (by kernel_rfl)
theorem frfa_putUVarint (q : Nat) (w : World) : (nilAhead 483 175 (.pointer (some ⟨q, 0, none⟩)) "pub-kestrel/pub/sarama.putUVarint").run Tryz.prog w = .ok (some false) w:=by kernel_rfl
theorem frf_putFloat64 {q p : Nat} {w : World} (h : w.cell? ⟨q, 0, none⟩ = some (.pointer (some ⟨p, 0, none⟩))) : (Go.method 483 175 (.pointer (some ⟨q, 0, none⟩)) "pub-kestrel/pub/sarama.putFloat64").run Tryz.prog w = .ok (244, .pointer (some ⟨p, 0, none⟩)) w:=prom175 h _ _ (by kernel_rfl)
theorem frfa_putFloat64 (q : Nat) (w : World) : (nilAhead 483 175 (.pointer (some ⟨q, 0, none⟩)) "pub-kestrel/pub/sarama.putFloat64").run Tryz.prog w = .ok (some false) w:=by kernel_rfl
theorem frf_putBool {q p : Nat} {w : World} (h : w.cell? ⟨q, 0, none⟩ = some (.pointer (some ⟨p, 0, none⟩))) : (Go.method 483 175 (.pointer (some ⟨q, 0, none⟩)) "pub-kestrel/pub/sarama.putBool").run Tryz.prog w = .ok (240, .pointer (some ⟨p, 0, none⟩)) w:=prom175 h _ _ (by kernel_rfl)
theorem frfa_putBool (q : Nat) (w : World) : (nilAhead 483 175 (.pointer (some ⟨q, 0, none⟩)) "pub-kestrel/pub/sarama.putBool").run Tryz.prog w = .ok (some false) w:=by kernel_rfl
theorem frf_putVarintBytes {q p : Nat} {w : World} (h : w.cell? ⟨q, 0, none⟩ = some (.pointer (some ⟨p, 0, none⟩))) : (Go.method 483 175 (.pointer (some ⟨q, 0, none⟩)) "pub-kestrel/pub/sarama.putVarintBytes").run Tryz.prog w = .ok (260, .pointer (some ⟨p, 0, none⟩)) w:=prom175 h _ _ (by kernel_rfl)
theorem frfa_putVarintBytes (q : Nat) (w : World) : (nilAhead 483 175 (.pointer (some ⟨q, 0, none⟩)) "pub-kestrel/pub/sarama.putVarintBytes").run Tryz.prog w = .ok (some false) w:=by kernel_rfl
theorem frf_putRawBytes {q p : Nat} {w : World} (h : w.cell? ⟨q, 0, none⟩ = some (.pointer (some ⟨p, 0, none⟩))) : (Go.method 483 175 (.pointer (some ⟨q, 0, none⟩)) "pub-kestrel/pub/sarama.putRawBytes").run Tryz.prog w = .ok (254, .pointer (some ⟨p, 0, none⟩)) w:=prom175 h _ _ (by kernel_rfl)
theorem frfa_putRawBytes (q : Nat) (w : World) : (nilAhead 483 175 (.pointer (some ⟨q, 0, none⟩)) "pub-kestrel/pub/sarama.putRawBytes").run Tryz.prog w = .ok (some false) w:=by kernel_rfl
theorem prom154 {q p : Nat} {w : World} (h : w.cell? ⟨q, 0, none⟩ = some (.pointer (some ⟨p, 0, none⟩))) (nm : String) (f : FuncId) (k : (Array.find? (fun x => x.name == nm) Tryz.t154.methods).map (fun m => (m.func, m.path.toList.map (fun s => (s.struct, s.index, s.deref)))) = some (some (f, true), [(156, 0, true)])) : (Go.method 483 154 (.pointer (some ⟨q, 0, none⟩)) nm).run Tryz.prog w = .ok (f, .pointer (some ⟨p, 0, none⟩)) w:=by
 cases hm : Array.find? (fun x => x.name == nm) Tryz.t154.methods with
 | none => rw [hm] at k; cases k
 | some m =>
  rw [hm] at k
  obtain ⟨hf, hp⟩:=Prod.mk.injEq .. ▸ Option.some.inj k
  obtain ⟨s, hps⟩ : ∃ s, m.path.toList = [s]:=by
   cases hl : m.path.toList with
   | nil => rw [hl] at hp; cases hp
   | cons s r => cases r with
    | nil => exact ⟨s, rfl⟩
    | cons _ _ => rw [hl] at hp; simp at hp
  rw [hps] at hp
  simp only [List.map_cons, List.map_nil, List.cons.injEq, Prod.mk.injEq, and_true] at hp
  obtain ⟨h1, h2, h3⟩:=hp
  have hu : ∀ w, (underlying 156).run Tryz.prog w = .ok (.struct #[{name:= "realDecoder", type:=148, offset:=0, embedded:=true,tag:= "",pkgPath:= "pub-kestrel/pub/sarama", byteOffset:=0 }]) w:=fun w => by rw [run_underlying Tryz.underlying156]
  unfold Go.method
  simp [go_sem, hm, hf, hps, follow, Place.get, receiverAt, h1, h2, h3, h, hu, loadVar]
theorem fdf_getInt8 {q p : Nat} {w : World} (h : w.cell? ⟨q, 0, none⟩ = some (.pointer (some ⟨p, 0, none⟩))) : (Go.method 483 154 (.pointer (some ⟨q, 0, none⟩)) "pub-kestrel/pub/sarama.getInt8").run Tryz.prog w = .ok (161, .pointer (some ⟨p, 0, none⟩)) w:=prom154 h _ _ (by kernel_rfl)
theorem fdfa_getInt8 (q : Nat) (w : World) : (nilAhead 483 154 (.pointer (some ⟨q, 0, none⟩)) "pub-kestrel/pub/sarama.getInt8").run Tryz.prog w = .ok (some false) w:=by kernel_rfl
theorem fdf_getInt16 {q p : Nat} {w : World} (h : w.cell? ⟨q, 0, none⟩ = some (.pointer (some ⟨p, 0, none⟩))) : (Go.method 483 154 (.pointer (some ⟨q, 0, none⟩)) "pub-kestrel/pub/sarama.getInt16").run Tryz.prog w = .ok (156, .pointer (some ⟨p, 0, none⟩)) w:=prom154 h _ _ (by kernel_rfl)
theorem fdfa_getInt16 (q : Nat) (w : World) : (nilAhead 483 154 (.pointer (some ⟨q, 0, none⟩)) "pub-kestrel/pub/sarama.getInt16").run Tryz.prog w = .ok (some false) w:=by kernel_rfl
theorem fdf_getInt32 {q p : Nat} {w : World} (h : w.cell? ⟨q, 0, none⟩ = some (.pointer (some ⟨p, 0, none⟩))) : (Go.method 483 154 (.pointer (some ⟨q, 0, none⟩)) "pub-kestrel/pub/sarama.getInt32").run Tryz.prog w = .ok (157, .pointer (some ⟨p, 0, none⟩)) w:=prom154 h _ _ (by kernel_rfl)
theorem fdfa_getInt32 (q : Nat) (w : World) : (nilAhead 483 154 (.pointer (some ⟨q, 0, none⟩)) "pub-kestrel/pub/sarama.getInt32").run Tryz.prog w = .ok (some false) w:=by kernel_rfl
theorem fdf_getInt64 {q p : Nat} {w : World} (h : w.cell? ⟨q, 0, none⟩ = some (.pointer (some ⟨p, 0, none⟩))) : (Go.method 483 154 (.pointer (some ⟨q, 0, none⟩)) "pub-kestrel/pub/sarama.getInt64").run Tryz.prog w = .ok (159, .pointer (some ⟨p, 0, none⟩)) w:=prom154 h _ _ (by kernel_rfl)
theorem fdfa_getInt64 (q : Nat) (w : World) : (nilAhead 483 154 (.pointer (some ⟨q, 0, none⟩)) "pub-kestrel/pub/sarama.getInt64").run Tryz.prog w = .ok (some false) w:=by kernel_rfl
theorem fdf_getVarint {q p : Nat} {w : World} (h : w.cell? ⟨q, 0, none⟩ = some (.pointer (some ⟨p, 0, none⟩))) : (Go.method 483 154 (.pointer (some ⟨q, 0, none⟩)) "pub-kestrel/pub/sarama.getVarint").run Tryz.prog w = .ok (167, .pointer (some ⟨p, 0, none⟩)) w:=prom154 h _ _ (by kernel_rfl)
theorem fdfa_getVarint (q : Nat) (w : World) : (nilAhead 483 154 (.pointer (some ⟨q, 0, none⟩)) "pub-kestrel/pub/sarama.getVarint").run Tryz.prog w = .ok (some false) w:=by kernel_rfl
theorem fdf_getUVarint {q p : Nat} {w : World} (h : w.cell? ⟨q, 0, none⟩ = some (.pointer (some ⟨p, 0, none⟩))) : (Go.method 483 154 (.pointer (some ⟨q, 0, none⟩)) "pub-kestrel/pub/sarama.getUVarint").run Tryz.prog w = .ok (166, .pointer (some ⟨p, 0, none⟩)) w:=prom154 h _ _ (by kernel_rfl)
theorem fdfa_getUVarint (q : Nat) (w : World) : (nilAhead 483 154 (.pointer (some ⟨q, 0, none⟩)) "pub-kestrel/pub/sarama.getUVarint").run Tryz.prog w = .ok (some false) w:=by kernel_rfl
theorem fdf_getFloat64 {q p : Nat} {w : World} (h : w.cell? ⟨q, 0, none⟩ = some (.pointer (some ⟨p, 0, none⟩))) : (Go.method 483 154 (.pointer (some ⟨q, 0, none⟩)) "pub-kestrel/pub/sarama.getFloat64").run Tryz.prog w = .ok (155, .pointer (some ⟨p, 0, none⟩)) w:=prom154 h _ _ (by kernel_rfl)
theorem fdfa_getFloat64 (q : Nat) (w : World) : (nilAhead 483 154 (.pointer (some ⟨q, 0, none⟩)) "pub-kestrel/pub/sarama.getFloat64").run Tryz.prog w = .ok (some false) w:=by kernel_rfl
theorem fdf_getBool {q p : Nat} {w : World} (h : w.cell? ⟨q, 0, none⟩ = some (.pointer (some ⟨p, 0, none⟩))) : (Go.method 483 154 (.pointer (some ⟨q, 0, none⟩)) "pub-kestrel/pub/sarama.getBool").run Tryz.prog w = .ok (153, .pointer (some ⟨p, 0, none⟩)) w:=prom154 h _ _ (by kernel_rfl)
theorem fdfa_getBool (q : Nat) (w : World) : (nilAhead 483 154 (.pointer (some ⟨q, 0, none⟩)) "pub-kestrel/pub/sarama.getBool").run Tryz.prog w = .ok (some false) w:=by kernel_rfl
theorem fdf_getVarintBytes {q p : Nat} {w : World} (h : w.cell? ⟨q, 0, none⟩ = some (.pointer (some ⟨p, 0, none⟩))) : (Go.method 483 154 (.pointer (some ⟨q, 0, none⟩)) "pub-kestrel/pub/sarama.getVarintBytes").run Tryz.prog w = .ok (168, .pointer (some ⟨p, 0, none⟩)) w:=prom154 h _ _ (by kernel_rfl)
theorem fdfa_getVarintBytes (q : Nat) (w : World) : (nilAhead 483 154 (.pointer (some ⟨q, 0, none⟩)) "pub-kestrel/pub/sarama.getVarintBytes").run Tryz.prog w = .ok (some false) w:=by kernel_rfl
theorem fdf_getRawBytes {q p : Nat} {w : World} (h : w.cell? ⟨q, 0, none⟩ = some (.pointer (some ⟨p, 0, none⟩))) : (Go.method 483 154 (.pointer (some ⟨q, 0, none⟩)) "pub-kestrel/pub/sarama.getRawBytes").run Tryz.prog w = .ok (163, .pointer (some ⟨p, 0, none⟩)) w:=prom154 h _ _ (by kernel_rfl)
theorem fdfa_getRawBytes (q : Nat) (w : World) : (nilAhead 483 154 (.pointer (some ⟨q, 0, none⟩)) "pub-kestrel/pub/sarama.getRawBytes").run Tryz.prog w = .ok (some false) w:=by kernel_rfl
theorem fdf_remaining {q p : Nat} {w : World} (h : w.cell? ⟨q, 0, none⟩ = some (.pointer (some ⟨p, 0, none⟩))) : (Go.method 483 154 (.pointer (some ⟨q, 0, none⟩)) "pub-kestrel/pub/sarama.remaining").run Tryz.prog w = .ok (172, .pointer (some ⟨p, 0, none⟩)) w:=prom154 h _ _ (by kernel_rfl)
theorem fdfa_remaining (q : Nat) (w : World) : (nilAhead 483 154 (.pointer (some ⟨q, 0, none⟩)) "pub-kestrel/pub/sarama.remaining").run Tryz.prog w = .ok (some false) w:=by kernel_rfl
end Go.Proofs.YtmpjikihnmagoaaGreatDoor
