/-
  The strategy by ranges, made anew; safe of a closure that ends.
-/
import Derived.Test.YtghgffhcdnmpnaaGreatC14
import Derived.Recover
import Derived.Defers
namespace Go.Proofs.YtghgffhcdnmpnaaGreat
open Go.RowKit Go.Sort
/-- What stands in a strategy by ranges. -/
def rangeObj : Obj := .cells #[.func (.func 72) #[] #[], .string ⟨#[114, 97, 110, 103, 101]⟩] 131
theorem newRange_any (w : World) : Calls Tryz.prog 61 #[] w fun e w' => e = .returned (.iface 125 (.pointer (some ⟨w.heap.size, 0, none⟩))) ∧ w' = w.alloc rangeObj := by
  go_enter Tryz.func61, Tryz.ntmps61
  go_wp2
  go_ret
  exact ⟨rfl, rfl⟩
theorem strategy0 (w : World) : Calls Tryz.prog 42 #[.int .i64 0] w fun e w' => e = .returned (.iface 125 (.pointer (some ⟨w.heap.size, 0, none⟩))) ∧ w' = w.alloc rangeObj := by
  have H := Lib.hid (newRange_any w)
  go_enter Tryz.func42, Tryz.ntmps42
  go_wp2_with (with_reducible refine H.out.mono ?_; rintro e w1 ⟨rfl, rfl⟩)
  go_ret
  exact ⟨rfl, rfl⟩
theorem safe_deferred (p : Addr) (x : Value) (w : World) (hc : w.cell? p = some x) (hz : w.frozen? p = false) :
    CallsD Tryz.prog 52 #[.pointer (some p)] .returning w fun e u' w' =>
      e = .returned (.tuple #[]) ∧ u' = .returning ∧ w' = w.setCell p (.bool true) := by
  refine callsD_of_wpS Tryz.func52 rfl fun c₀ cs hu => ?_
  apply wpS_region
  simp [wpOpsS, go_sem, recoverD, hu, Tryz.ntmps52, hc, hz]
  cases c₀
  simp_all [bodyPostS, results, Tryz.results52]
set_option maxRecDepth 100000 in
set_option maxHeartbeats 400000 in
/-- safe of a closure that ends. -/
theorem safe_any (G : FuncId) (caps : Array Value) (w : World) (R : World → Prop)
    (hcf : ∀ W, (callFunc G caps).run Tryz.prog W = .ok (.enter G caps) W)
    (hG : Calls Tryz.prog G caps (w.alloc (.cells #[.bool false] 4)) fun e W' => e = .returned (.tuple #[]) ∧ R W')
    (hR : ∀ W', R W' → W'.heap[w.heap.size]? = some (.cells #[.bool false] 4 (0, 0))) :
    Calls Tryz.prog 28 #[.func (.func G) #[] caps] w fun e w' => e = .returned (.bool true) ∧ ∃ W', R W' ∧ Kept [w.heap.size] W' w' := by
  have hmf : ∀ (fn : Fn) (first cap : Array Value) (w : World), (Instr.makeFunc fn first cap).run Tryz.prog w = .ok (.func fn first cap) w := fun _ _ _ _ => rfl
  have HG := Lib.hid hG
  have HR := Lib.hid hR
  clear hG hR
  go_enter_defers Tryz.func28, Tryz.ntmps28
  go_wp2_with (with_reducible refine HG.out.mono ?_; rintro e w1 ⟨rfl, h1⟩; have hh := HR.out w1 h1; have hc1 : w1.cell? ⟨w.heap.size, 0, none⟩ = some (.bool false) := (by simp [World.cell?, hh]); have hf1 : w1.frozen? ⟨w.heap.size, 0, none⟩ = false := (by simp [World.frozen?, hh]); have H1 := Lib.hid h1; clear h1)
  refine leaves_cons (f := 52) (args := #[.pointer (some ⟨w.heap.size, 0, none⟩)]) (by simp) (by simp [go_sem]) ?_
  have hh2 := heap_setCell_same w1 w.heap.size 0 _ 4 (.bool true) hh
  have hcc : (w1.setCell ⟨w.heap.size, 0, none⟩ (.bool true)).cell? ⟨w.heap.size, 0, none⟩ = some (.bool true) := by simp [World.cell?, hh2]
  have hff : (w1.setCell ⟨w.heap.size, 0, none⟩ (.bool true)).frozen? ⟨w.heap.size, 0, none⟩ = false := by simp [World.frozen?, hh2]
  refine (safe_deferred ⟨w.heap.size, 0, none⟩ (.bool true) _ hcc hff).mono ?_
  rintro e u' w'' ⟨rfl, rfl, rfl⟩
  have hh3 := heap_setCell_same (w1.setCell ⟨w.heap.size, 0, none⟩ (.bool true)) w.heap.size 0 _ 4 (.bool true) hh2
  have hc3 : ((w1.setCell ⟨w.heap.size, 0, none⟩ (.bool true)).setCell ⟨w.heap.size, 0, none⟩ (.bool true)).cell? ⟨w.heap.size, 0, none⟩ = some (.bool true) := by simp [World.cell?, hh3]
  simp [Leaves, settle, results, Tryz.results28, go_sem, hc3]
  exact ⟨w1, H1.out, ((Kept.refl _ _).setCell (.inl (by simp)) _).setCell (.inl (by simp)) _⟩
end Go.Proofs.YtghgffhcdnmpnaaGreat
