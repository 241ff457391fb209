/-
  slices.SortFunc of shares by their topics. Condition: twelve at most.
-/
import Derived.Test.YtghgffhcdnmpnaaGreatC12
namespace Go.Proofs.YtghgffhcdnmpnaaGreat
open Go.RowKit Go.Sort
set_option maxRecDepth 100000 in
set_option maxHeartbeats 3200000 in
/-- pdqsort of twelve shares at most. -/
theorem pdqShare_own (g n cap : Nat) (l : List (Sh × Value)) (lim : Int) (w : World) (h : w.ownsRow 0 53 3 (.slice (some ⟨g, 0, none⟩) n cap) n (shFlat l)) (h1 : ∀ p ∈ l, p.2.oneCell' = true) (hn : n ≤ 12) :
    Calls Tryz.prog 88 #[.slice (some ⟨g, 0, none⟩) n cap, .int .i64 0, .int .i64 n, .int .i64 lim, .func (.func 68) #[] #[]] w fun e w' => e = .returned (.tuple #[]) ∧ ∃ l', l'.Perm l ∧ l'.Pairwise tle ∧ w'.ownsRow 0 53 3 (.slice (some ⟨g, 0, none⟩) n cap) n (shFlat l') ∧ Kept [g] w w' := by
  have hc := insShare_own g n cap l w h h1 (by omega)
  have HC := Lib.hid hc
  clear hc h h1
  have hn' : (n : Int) ≤ 12 := by omega
  go_enter Tryz.func88, Tryz.ntmps88
  go_wp2
  refine wp_loop_once ?_
  go_wp2_with (with_reducible refine HC.out.mono ?_; rintro e w1 ⟨rfl, l', hp, hs, ho, hk⟩)
  refine bodyPost_ret (results_none rfl _ _ _) rfl ?_
  exact ⟨rfl, l', hp, hs, ho, hk⟩
set_option maxRecDepth 100000 in
set_option maxHeartbeats 3200000 in
/-- slices.SortFunc of twelve shares at most. -/
theorem sortShares_own (g n cap : Nat) (l : List (Sh × Value)) (w : World) (h : w.ownsRow 0 53 3 (.slice (some ⟨g, 0, none⟩) n cap) n (shFlat l)) (h1 : ∀ p ∈ l, p.2.oneCell' = true) (hn : n ≤ 12) :
    Calls Tryz.prog 67 #[.slice (some ⟨g, 0, none⟩) n cap, .func (.func 68) #[] #[]] w fun e w' => e = .returned (.tuple #[]) ∧ ∃ l', l'.Perm l ∧ l'.Pairwise tle ∧ w'.ownsRow 0 53 3 (.slice (some ⟨g, 0, none⟩) n cap) n (shFlat l') ∧ Kept [g] w w' := by
  have HC := Lib.hid (fun lim => pdqShare_own g n cap l lim w h h1 hn)
  have hb := Tryz.bits_Len (n : Int) w (by omega) (by omega)
  have HB := Lib.hid hb
  clear hb h h1
  go_enter Tryz.func67, Tryz.ntmps67
  go_wp2_with (first | (with_reducible refine HB.out.mono ?_; rintro e w1 ⟨rfl, rfl⟩) | (with_reducible refine (HC.out _).mono ?_; rintro e w1 ⟨rfl, l', hp, hs, ho, hk⟩))
  refine bodyPost_end (results_none rfl _ _ _) rfl ?_
  exact ⟨rfl, l', hp, hs, ho, hk⟩
end Go.Proofs.YtghgffhcdnmpnaaGreat
