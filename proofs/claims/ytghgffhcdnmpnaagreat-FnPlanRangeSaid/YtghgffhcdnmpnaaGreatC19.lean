/-
  The manual partitioner, made anew, and what it answers.
-/
import Derived.Test.YtghgffhcdnmpnaaGreatC18
namespace Go.Proofs.YtghgffhcdnmpnaaGreat
open Go.RowKit Go.Sort
/-- The manual partitioner: the message's own partition. -/
theorem manual_any (p : Value) (b : Nat) (k n : Int) (w : World) (h : w.cell? ⟨b, 3, none⟩ = some (.int .i32 k)) :
    Calls Tryz.prog 143 #[p, .pointer (some ⟨b, 0, none⟩), .int .i32 n] w fun e w' => e = .returned (.tuple #[.int .i32 k, .nilIface]) ∧ w = w' := by
  go_enter Tryz.func143, Tryz.ntmps143
  go_wp2
  refine bodyPost_ret (results_tmp2 rfl _ _ _) rfl ⟨rfl, rfl⟩
theorem newManual_any (s : Value) (w : World) : Calls Tryz.prog 57 #[s] w fun e w' => e = .returned (.iface 122 (.pointer (some ⟨w.heap.size, 0, none⟩))) ∧ w' = w.alloc (.cells #[] 124) := by
  go_enter Tryz.func57, Tryz.ntmps57
  go_wp2
  go_ret
  exact ⟨rfl, rfl⟩
theorem partitioner4 (w : World) : Calls Tryz.prog 31 #[.int .i64 4] w fun e w' => e = .returned (.iface 122 (.pointer (some ⟨w.heap.size, 0, none⟩))) ∧ w' = w.alloc (.cells #[] 124) := by
  have H := Lib.hid (fun s => newManual_any s w)
  go_enter Tryz.func31, Tryz.ntmps31
  go_wp2_with (with_reducible refine (H.out _).mono ?_; rintro e w1 ⟨rfl, rfl⟩)
  go_ret
  exact ⟨rfl, rfl⟩
end Go.Proofs.YtghgffhcdnmpnaaGreat
