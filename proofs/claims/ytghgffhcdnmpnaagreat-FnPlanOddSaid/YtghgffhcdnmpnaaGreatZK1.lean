/-
  The closure of GroupPlan, and GroupPlan, for any strategy (PlanK). Conditions: those of a group (Grp), and the strategy's own.
-/
import Derived.Test.YtghgffhcdnmpnaaGreatZC17
import Derived.Test.YtghgffhcdnmpnaaGreatZC15
namespace Go.Proofs.YtghgffhcdnmpnaaGreat
open Go.RowKit Go.Sort
/-- What a strategy is told: members with their topics, topics with their partitions. -/
structure Told (l : List (ByteArray × List ByteArray)) (tm : List (ByteArray × List Int)) : Prop where
  one : 1 ≤ l.length
  seven : l.length ≤ 7
  ids : (l.map Prod.fst).Nodup
  once : ∀ p ∈ l, p.2.Nodup ∧ p.2.length ≤ 1000000
  names : (tm.map Prod.fst).Nodup
  twelve : tm.length ≤ 12
  few : ∀ p ∈ tm, p.2.length ≤ 1000000
/-- What a plan gives is not too much, and of the topics alone. -/
structure Few (tm : List (ByteArray × List Int)) (F : ByteArray → ByteArray → List Int) : Prop where
  top : ∀ k t, F k t ≠ [] → t ∈ tm.map Prod.fst
  len : ∀ k t, (F k t).length ≤ 1000000
end Go.Proofs.YtghgffhcdnmpnaaGreat
/-
  zzSort: a sort by insertion, over closures that compare and exchange. Conditions: the closures do so; a million elements at most.
-/
namespace Go.Proofs.YtghgffhcdnmpnaaGreat
open Go.RowKit Go.Sort
/-- What an order must be. -/
structure OrdB {α : Type} (lt : α → α → Bool) : Prop where
  asymm : ∀ x y, lt x y = true → lt y x = false
  trans : ∀ a b c, lt b a = false → lt c b = false → lt c a = false
theorem swap_two {α : Type} (a b : List α) (y x : α) : ((a ++ y :: x :: b).set (a.length + 1) y).set a.length x = a ++ x :: y :: b := by
  rw [List.set_append_right _ _ (by omega), List.set_append_right _ _ (by omega)]
  simp
theorem insert_sorted {α : Type} {lt : α → α → Bool} (H : OrdB lt) {a b : List α} {x : α} (hp : (a ++ b).Pairwise (fun p q => lt q p = false)) (hb : ∀ y ∈ b, lt x y = true) (ha : ∀ y, a.getLast? = some y → lt x y = false) : (a ++ x :: b).Pairwise (fun p q => lt q p = false) := by
  rw [List.pairwise_append] at hp ⊢
  obtain ⟨h1, h2, h3⟩ := hp
  have hax : ∀ y ∈ a, lt x y = false := by
    intro y hy
    rcases List.eq_nil_or_concat a with rfl | ⟨c, z, rfl⟩
    · cases hy
    · rw [List.concat_eq_append] at *
      have hz := ha z (by simp)
      rcases List.mem_append.1 hy with hy | hy
      · have := (List.pairwise_append.1 h1).2.2 y hy z (by simp)
        exact H.trans _ _ _ this hz
      · rw [List.mem_singleton.1 hy]; exact hz
  refine ⟨h1, List.pairwise_cons.2 ⟨fun y hy => H.asymm _ _ (hb y hy), h2⟩, fun y hy z hz => ?_⟩
  rcases List.mem_cons.1 hz with rfl | hz
  · exact hax y hy
  · exact h3 y hy z hz
set_option maxHeartbeats 1600000 in
theorem zzSort_any {α : Type} {lt : α → α → Bool} (H : OrdB lt) (Gs Gl : FuncId) (cs cl : Array Value) (S : List α → World → Prop)
    (hcs : ∀ (args : Array Value) (W : World), (callFunc Gs args).run Tryz.prog W = .ok (.enter Gs args) W) (hcl : ∀ (args : Array Value) (W : World), (callFunc Gl args).run Tryz.prog W = .ok (.enter Gl args) W)
    (hless : ∀ (l : List α) (W : World) (i j : Nat) (x y : α), S l W → l[i]? = some x → l[j]? = some y → Calls Tryz.prog Gl (#[.int .i64 i, .int .i64 j] ++ cl) W fun e w' => e = .returned (.bool (lt x y)) ∧ S l w')
    (hswap : ∀ (l : List α) (W : World) (i j : Nat) (x y : α), S l W → l[i]? = some x → l[j]? = some y → i ≠ j → Calls Tryz.prog Gs (#[.int .i64 i, .int .i64 j] ++ cs) W fun e w' => e = .returned (.tuple #[]) ∧ S ((l.set i y).set j x) w')
    (l : List α) (n : Nat) (hln : l.length = n) (w : World) (h : S l w) (hn : n ≤ 1000000) :
    Calls Tryz.prog 171 #[.int .i64 n, .func (.func Gs) #[] cs, .func (.func Gl) #[] cl] w fun e w' => e = .returned (.tuple #[]) ∧ ∃ l', l'.Perm l ∧ l'.Pairwise (fun p q => lt q p = false) ∧ S l' w' := by
  have HLESS := Lib.hid hless
  have HSWAP := Lib.hid hswap
  have HH := Lib.hid h
  have HLN := Lib.hid hln
  clear hless hswap h
  by_cases hn1 : n ≤ 1
  · go_enter Tryz.func171, Tryz.ntmps171
    go_wp2
    refine wp_loop_once ?_
    go_wp2
    refine bodyPost_end (results_none rfl _ _ _) rfl ⟨rfl, l, List.Perm.refl _, ?_, HH.out⟩
    match l, hln with
    | [], _ => exact .nil
    | [x], _ => exact List.pairwise_singleton _ _
    | _ :: _ :: _, h => simp at h; omega
  · clear hln
    go_enter Tryz.func171, Tryz.ntmps171
    go_wp2
    go_loopw [6] (fun i wr => ∃ p rest : List α, i = .int .i64 (p.length : Nat) ∧ 1 ≤ p.length ∧ p.length + rest.length = n ∧ (p ++ rest).Perm l ∧ p.Pairwise (fun a b => lt b a = false) ∧ S (p ++ rest) wr) (fun i _ => n - (intOf i).toNat)
    case atStart =>
      match l, HLN.out, HH.out with
      | x :: r, h, hS => exact ⟨[x], r, rfl, by simp, by simpa [Nat.add_comm] using h, List.Perm.refl _, List.pairwise_singleton _ _, hS⟩
      | [], h, _ => simp at h; omega
    case round =>
      obtain ⟨p, rest, rfl, h1, hpn, hperm, hsort, hS⟩ := hrel
      have HPERM := Lib.hid hperm
      have HSORT := Lib.hid hsort
      have HS := Lib.hid hS
      clear hperm hsort hS
      by_cases hlt : p.length < n
      · obtain ⟨x, rest', rfl⟩ : ∃ x r, rest = x :: r := by
          match rest, hpn with
          | x :: r, _ => exact ⟨x, r, rfl⟩
          | [], h => simp at h; omega
        go_wp2
        obtain ⟨w0, hw0⟩ : ∃ w0 : World, w0 = wr := ⟨_, rfl⟩
        rw [← hw0] at HS ⊢
        clear hw0
        go_loopw [7] (fun j w1 => ∃ a b : List α, j = .int .i64 (a.length : Nat) ∧ a ++ b = p ∧ (∀ y ∈ b, lt x y = true) ∧ S (a ++ x :: b ++ rest') w1) (fun j _ => (intOf j).toNat)
        case atStart => exact ⟨p, [], rfl, by simp, by simp, by simpa using HS.out⟩
        case round =>
          obtain ⟨a, b, rfl, hab, hb, hS1⟩ := hrel
          have HAB := Lib.hid hab
          have HB := Lib.hid hb
          have HS1 := Lib.hid hS1
          have hal : a.length ≤ p.length := by rw [← hab]; simp
          clear hab hb hS1
          have HNEW : Hid ((∀ y, a.getLast? = some y → lt x y = false) → ∀ w2, S (a ++ x :: b ++ rest') w2 → (∃ p' r' : List α, p'.length = p.length + 1 ∧ p'.length + r'.length = n ∧ (p' ++ r').Perm l ∧ p'.Pairwise (fun a b => lt b a = false) ∧ S (p' ++ r') w2)) := by
            intro hlast w2 hS2
            have hs := HSORT.out
            rw [← HAB.out] at hs
            refine ⟨a ++ x :: b, rest', by rw [← HAB.out]; simp; omega, ?_, ?_, insert_sorted H hs HB.out hlast, hS2⟩
            · have := HAB.out; subst this; simp at hpn ⊢; omega
            · refine List.Perm.trans ?_ HPERM.out
              rw [← HAB.out]
              have : (a ++ x :: b).Perm (a ++ b ++ [x]) := by
                rw [List.append_assoc]
                exact (List.perm_append_left_iff a).2 (List.perm_append_singleton x b).symm
              simpa using this.append_right rest'
          by_cases ha : 0 < a.length
          · obtain ⟨a', y, rfl⟩ : ∃ a' y, a = a' ++ [y] := by
              rcases List.eq_nil_or_concat a with rfl | ⟨c, z, rfl⟩
              · simp at ha
              · exact ⟨c, z, by simp⟩
            have hal' : (a' ++ [y]).length = a'.length + 1 := by simp
            have HX : Hid ((a' ++ [y] ++ x :: b ++ rest')[a'.length + 1]? = some x ∧ (a' ++ [y] ++ x :: b ++ rest')[a'.length]? = some y) := by
              constructor
              · rw [List.append_assoc, List.getElem?_append_right (by simp)]; simp
              · rw [List.append_assoc, List.append_assoc, List.getElem?_append_right (by simp)]; simp
            have HC : Hid (∀ W, S (a' ++ [y] ++ x :: b ++ rest') W → Calls Tryz.prog Gl (#[.int .i64 ((a'.length : Int) + 1), .int .i64 (a'.length : Nat)] ++ cl) W fun e w' => e = .returned (.bool (lt x y)) ∧ S (a' ++ [y] ++ x :: b ++ rest') w') := fun W hW => HLESS.out _ W (a'.length + 1) a'.length x y hW HX.out.1 HX.out.2
            have HD : Hid (∀ W, S (a' ++ [y] ++ x :: b ++ rest') W → Calls Tryz.prog Gs (#[.int .i64 ((a'.length : Int) + 1), .int .i64 (a'.length : Nat)] ++ cs) W fun e w' => e = .returned (.tuple #[]) ∧ S (((a' ++ [y] ++ x :: b ++ rest').set (a'.length + 1) y).set a'.length x) w') := fun W hW => HSWAP.out _ W (a'.length + 1) a'.length x y hW HX.out.1 HX.out.2 (by omega)
            rw [hal'] at hal ⊢
            clear ha hal'
            by_cases hxy : lt x y = true
            · rw [hxy] at HC
              have HXY := Lib.hid hxy
              clear hxy
              go_wp2_with (first | (with_reducible refine (HC.out _ HS1.out).mono ?_; rintro e w2 ⟨rfl, hS2⟩; have HS2 := Lib.hid hS2; clear hS2) | (with_reducible refine (HD.out _ HS2.out).mono ?_; rintro e w3 ⟨rfl, hS3⟩; have HS3 := Lib.hid hS3; clear hS3))
              go_roundw
              case rel =>
                refine ⟨a', y :: b, rfl, by rw [← HAB.out]; simp, ?_, ?_⟩
                · intro z hz
                  rcases List.mem_cons.1 hz with rfl | hz
                  · exact HXY.out
                  · exact HB.out z hz
                · have h3 := HS3.out
                  have e1 : a' ++ [y] ++ x :: b ++ rest' = a' ++ y :: x :: (b ++ rest') := by simp
                  rw [e1, swap_two] at h3
                  simpa using h3
              case measure => (simp [intOf]) <;> omega
            · have hxy : lt x y = false := by simpa using hxy
              rw [hxy] at HC
              have HXY := Lib.hid hxy
              clear hxy
              go_wp2_with (with_reducible refine (HC.out _ HS1.out).mono ?_; rintro e w2 ⟨rfl, hS2⟩; have HS2 := Lib.hid hS2; clear hS2)
              obtain ⟨p', r', hp1, hp2, hp3, hp4, hp5⟩ := HNEW.out (fun z hz => by
                have : z = y := by simpa using hz.symm
                rw [this]; exact HXY.out) w2 HS2.out
              go_roundw
              case rel => exact ⟨p', r', by rw [hp1]; rfl, by omega, hp2, hp3, hp4, hp5⟩
              case measure => (simp [intOf]) <;> omega
          · have ha0 : a = [] := List.eq_nil_of_length_eq_zero (by omega)
            subst ha0
            obtain ⟨p', r', hp1, hp2, hp3, hp4, hp5⟩ := HNEW.out (by simp) wr HS1.out
            clear HNEW
            go_wp2
            go_roundw
            case rel => exact ⟨p', r', by rw [hp1]; rfl, by omega, hp2, hp3, hp4, hp5⟩
            case measure => (simp [intOf]) <;> omega
      · have hr0 : rest = [] := List.eq_nil_of_length_eq_zero (by omega)
        subst hr0
        go_wp2
        refine bodyPost_end (results_none rfl _ _ _) rfl ⟨rfl, p, by simpa using HPERM.out, HSORT.out, by simpa using HS.out⟩
end Go.Proofs.YtghgffhcdnmpnaaGreat
/-
  zzSort gives the same elements in some order, whatever the comparison answers. Conditions: the closures compare and exchange; a million elements at most.
-/
namespace Go.Proofs.YtghgffhcdnmpnaaGreat
open Go.RowKit Go.Sort
set_option maxHeartbeats 1600000 in
theorem zzSort_perm {α : Type} (Gs Gl : FuncId) (cs cl : Array Value) (S : List α → World → Prop)
    (hcs : ∀ (args : Array Value) (W : World), (callFunc Gs args).run Tryz.prog W = .ok (.enter Gs args) W) (hcl : ∀ (args : Array Value) (W : World), (callFunc Gl args).run Tryz.prog W = .ok (.enter Gl args) W)
    (hless : ∀ (l : List α) (W : World) (i j : Nat) (x y : α), S l W → l[i]? = some x → l[j]? = some y → Calls Tryz.prog Gl (#[.int .i64 i, .int .i64 j] ++ cl) W fun e w' => ∃ b : Bool, e = .returned (.bool b) ∧ S l w')
    (hswap : ∀ (l : List α) (W : World) (i j : Nat) (x y : α), S l W → l[i]? = some x → l[j]? = some y → i ≠ j → Calls Tryz.prog Gs (#[.int .i64 i, .int .i64 j] ++ cs) W fun e w' => e = .returned (.tuple #[]) ∧ S ((l.set i y).set j x) w')
    (l : List α) (n : Nat) (hln : l.length = n) (w : World) (h : S l w) (hn : n ≤ 1000000) :
    Calls Tryz.prog 171 #[.int .i64 n, .func (.func Gs) #[] cs, .func (.func Gl) #[] cl] w fun e w' => e = .returned (.tuple #[]) ∧ ∃ l' : List α, l'.Perm l ∧ S l' w' := by
  have HLESS := Lib.hid hless
  have HSWAP := Lib.hid hswap
  have HH := Lib.hid h
  have HLN := Lib.hid hln
  clear hless hswap h
  by_cases hn1 : n ≤ 1
  · go_enter Tryz.func171, Tryz.ntmps171
    go_wp2
    refine wp_loop_once ?_
    go_wp2
    refine bodyPost_end (results_none rfl _ _ _) rfl ⟨rfl, l, List.Perm.refl _, HH.out⟩
  · clear hln
    go_enter Tryz.func171, Tryz.ntmps171
    go_wp2
    go_loopw [6] (fun i wr => ∃ p rest : List α, i = .int .i64 (p.length : Nat) ∧ 1 ≤ p.length ∧ p.length + rest.length = n ∧ (p ++ rest).Perm l ∧ S (p ++ rest) wr) (fun i _ => n - (intOf i).toNat)
    case atStart =>
      match l, HLN.out, HH.out with
      | x :: r, h, hS => exact ⟨[x], r, rfl, by simp, by simpa [Nat.add_comm] using h, List.Perm.refl _, hS⟩
      | [], h, _ => simp at h; omega
    case round =>
      obtain ⟨p, rest, rfl, h1, hpn, hperm, hS⟩ := hrel
      have HPERM := Lib.hid hperm
      have HS := Lib.hid hS
      clear hperm hS
      by_cases hlt : p.length < n
      · obtain ⟨x, rest', rfl⟩ : ∃ x r, rest = x :: r := by
          match rest, hpn with
          | x :: r, _ => exact ⟨x, r, rfl⟩
          | [], h => simp at h; omega
        go_wp2
        obtain ⟨w0, hw0⟩ : ∃ w0 : World, w0 = wr := ⟨_, rfl⟩
        rw [← hw0] at HS ⊢
        clear hw0
        go_loopw [7] (fun j w1 => ∃ a b : List α, j = .int .i64 (a.length : Nat) ∧ a ++ b = p ∧ S (a ++ x :: b ++ rest') w1) (fun j _ => (intOf j).toNat)
        case atStart => exact ⟨p, [], rfl, by simp, by simpa using HS.out⟩
        case round =>
          obtain ⟨a, b, rfl, hab, hS1⟩ := hrel
          have HAB := Lib.hid hab
          have HS1 := Lib.hid hS1
          have hal : a.length ≤ p.length := by rw [← hab]; simp
          clear hab hS1
          have HNEW : Hid (∀ w2, S (a ++ x :: b ++ rest') w2 → (∃ p' r' : List α, p'.length = p.length + 1 ∧ p'.length + r'.length = n ∧ (p' ++ r').Perm l ∧ S (p' ++ r') w2)) := by
            intro w2 hS2
            refine ⟨a ++ x :: b, rest', by rw [← HAB.out]; simp; omega, ?_, ?_, hS2⟩
            · have := HAB.out; subst this; simp at hpn ⊢; omega
            · refine List.Perm.trans ?_ HPERM.out
              rw [← HAB.out]
              have : (a ++ x :: b).Perm (a ++ b ++ [x]) := by
                rw [List.append_assoc]
                exact (List.perm_append_left_iff a).2 (List.perm_append_singleton x b).symm
              simpa using this.append_right rest'
          by_cases ha : 0 < a.length
          · obtain ⟨a', y, rfl⟩ : ∃ a' y, a = a' ++ [y] := by
              rcases List.eq_nil_or_concat a with rfl | ⟨c, z, rfl⟩
              · simp at ha
              · exact ⟨c, z, by simp⟩
            have hal' : (a' ++ [y]).length = a'.length + 1 := by simp
            have HX : Hid ((a' ++ [y] ++ x :: b ++ rest')[a'.length + 1]? = some x ∧ (a' ++ [y] ++ x :: b ++ rest')[a'.length]? = some y) := by
              constructor
              · rw [List.append_assoc, List.getElem?_append_right (by simp)]; simp
              · rw [List.append_assoc, List.append_assoc, List.getElem?_append_right (by simp)]; simp
            have HC : Hid (∀ W, S (a' ++ [y] ++ x :: b ++ rest') W → Calls Tryz.prog Gl (#[.int .i64 ((a'.length : Int) + 1), .int .i64 (a'.length : Nat)] ++ cl) W fun e w' => ∃ bb : Bool, e = .returned (.bool bb) ∧ S (a' ++ [y] ++ x :: b ++ rest') w') := fun W hW => HLESS.out _ W (a'.length + 1) a'.length x y hW HX.out.1 HX.out.2
            have HD : Hid (∀ W, S (a' ++ [y] ++ x :: b ++ rest') W → Calls Tryz.prog Gs (#[.int .i64 ((a'.length : Int) + 1), .int .i64 (a'.length : Nat)] ++ cs) W fun e w' => e = .returned (.tuple #[]) ∧ S (((a' ++ [y] ++ x :: b ++ rest').set (a'.length + 1) y).set a'.length x) w') := fun W hW => HSWAP.out _ W (a'.length + 1) a'.length x y hW HX.out.1 HX.out.2 (by omega)
            rw [hal'] at hal ⊢
            clear ha hal'
            go_wp2_with (first | (with_reducible refine (HC.out _ HS1.out).mono ?_; rintro e w2 ⟨bb, rfl, hS2⟩; have HS2 := Lib.hid hS2; clear hS2; rcases bb with _ | _) | (with_reducible refine (HD.out _ HS2.out).mono ?_; rintro e w3 ⟨rfl, hS3⟩; have HS3 := Lib.hid hS3; clear hS3))
            · obtain ⟨p', r', hp1, hp2, hp3, hp5⟩ := HNEW.out w2 HS2.out
              go_roundw
              case rel => exact ⟨p', r', by rw [hp1]; rfl, by omega, hp2, hp3, hp5⟩
              case measure => (simp [intOf]) <;> omega
            · go_roundw
              case rel =>
                refine ⟨a', y :: b, rfl, by rw [← HAB.out]; simp, ?_⟩
                have h3 := HS3.out
                have e1 : a' ++ [y] ++ x :: b ++ rest' = a' ++ y :: x :: (b ++ rest') := by simp
                rw [e1, swap_two] at h3
                simpa using h3
              case measure => (simp [intOf]) <;> omega
          · have ha0 : a = [] := List.eq_nil_of_length_eq_zero (by omega)
            subst ha0
            obtain ⟨p', r', hp1, hp2, hp3, hp5⟩ := HNEW.out wr HS1.out
            clear HNEW
            go_wp2
            go_roundw
            case rel => exact ⟨p', r', by rw [hp1]; rfl, by omega, hp2, hp3, hp5⟩
            case measure => (simp [intOf]) <;> omega
      · have hr0 : rest = [] := List.eq_nil_of_length_eq_zero (by omega)
        subst hr0
        go_wp2
        refine bodyPost_end (results_none rfl _ _ _) rfl ⟨rfl, p, by simpa using HPERM.out, by simpa using HS.out⟩
end Go.Proofs.YtghgffhcdnmpnaaGreat
