/-
  groupAlive: true.
-/
import Derived.Test.YtghgffhcdnmpnaaGreatC21
import Derived.Test.YtghgffhcdnmpnaaGreatP1
namespace Go.Proofs.YtghgffhcdnmpnaaGreat
open Go.RowKit Go.Sort
def bM : ByteArray := ⟨#[109]⟩
def bT : ByteArray := ⟨#[116]⟩
theorem srt_one (x : ByteArray) : srt [x] = [x] := List.perm_singleton.1 (srt_perm [x])
def aliveMem (z : Nat) : MV := { id := bM, ver := 0, tops := [bT], tv := .slice (some ⟨z, 0, none⟩) 1 1, dv := .slice none 0 0, dn := 0, ov := .slice none 0 0, on := 0, gen := 0, rack := ⟨#[]⟩, hr := false }
def aliveSh : Sh := ⟨⟨#[]⟩, bT, [0, 1]⟩
theorem alive_canon (z : Nat) : canon (rangePlan (memList [aliveMem z]) (topList [aliveSh])) ([aliveMem z].map MV.id) ([aliveSh].map Sh.top) = [⟨bM, bT, [0, 1]⟩] := by
  have h1 : rangePlan (memList [aliveMem z]) (topList [aliveSh]) bM bT = [0, 1] := by
    have hw : wantIds (memList [aliveMem z]) bT = [bM] := by simp [wantIds, memList, aliveMem]
    have ht : tget (topList [aliveSh]) bT = [0, 1] := by simp [tget, topList, aliveSh]
    rw [rangePlan, hw, ht, srt_one]
    simp [rangeOf, rpart, rlo, rhi]
  show (srt [bM]).flatMap _ = _
  rw [srt_one]
  simp only [List.flatMap_cons, List.flatMap_nil, List.append_nil]
  have h2 : fullTops (rangePlan (memList [aliveMem z]) (topList [aliveSh]) bM) ([aliveSh].map Sh.top) = [bT] := by
    show List.filter _ [bT] = _
    simp [h1]
  rw [h2, srt_one]
  simp [mkSh, h1]
theorem one_at {w : World} {b : Nat} {cs : Array Value} {T : TypeId} (hb : w.heap[b]? = some (.cells cs T (0, 0))) (s n : Nat) (hs : cs.size = n * s) (hn : n ≤ 1000) {X : Nat → Prop} (hX : X b) : SlAt w X s (.slice (some ⟨b, 0, none⟩) n n) cs.toList := by
  refine ⟨_, _, _, rfl, ⟨by simpa using hs, by omega, fun _ => ⟨b, 0, rfl, fun i v hv => ?_⟩⟩, fun a ha _ => by cases ha; exact hX, Nat.le_refl _⟩
  rw [Nat.zero_add, cell_of_row _ _ _ _ _ _ hb]
  simpa using hv
theorem alive_grp {W : World} {z : Nat} (hz : z + 4 ≤ W.heap.size) (h0 : W.heap[z]? = some (.cells #[.string bT] 9 (0, 0))) (h1 : W.heap[z + 1]? = some (.cells #[.string bM, .int .i16 0, .slice (some ⟨z, 0, none⟩) 1 1, .slice none 0 0, .slice none 0 0, .int .i32 0, .string ⟨#[]⟩, .bool false] 46 (0, 0)))
    (h2 : W.heap[z + 2]? = some (.cells #[.int .i32 0, .int .i32 1] 21 (0, 0))) (h3 : W.heap[z + 3]? = some (.cells #[.string ⟨#[]⟩, .string bT, .slice (some ⟨z + 2, 0, none⟩) 2 2] 53 (0, 0))) :
    Grp W (fun x => z ≤ x ∧ x < z + 4) (.slice (some ⟨z + 1, 0, none⟩) 1 1) (.slice (some ⟨z + 3, 0, none⟩) 1 1) [aliveMem z] [aliveSh] where
  mems := by
    refine ⟨one_at h1 8 1 rfl (by omega) ⟨by omega, by omega⟩, ?_⟩
    intro m hm
    obtain rfl := List.mem_singleton.1 hm
    exact ⟨one_at h0 1 1 rfl (by omega) ⟨by omega, by omega⟩, ⟨_, _, rfl⟩, ⟨_, _, rfl⟩⟩
  tops := by
    refine ⟨[(aliveSh, .slice (some ⟨z + 2, 0, none⟩) 2 2)], rfl, one_at h3 3 1 rfl (by omega) ⟨by omega, by omega⟩, ?_⟩
    intro p hp
    obtain rfl := List.mem_singleton.1 hp
    exact one_at h2 1 2 rfl (by omega) ⟨by omega, by omega⟩
  lt := fun x hx => by omega
  ids := by simp
  six := by simp
  one := by simp
  once := by
    intro m hm
    obtain rfl := List.mem_singleton.1 hm
    simp [aliveMem]
  names := by simp
  twelve := by simp
  few := by
    intro s hs
    obtain rfl := List.mem_singleton.1 hs
    simp [aliveSh]
theorem part_alive (w : World) : Calls Tryz.prog 13 #[.int .i64 4, .slice none 0 0, .int .i32 3, .int .i32 5] w fun e w' => e = .returned (.tuple #[.int .i32 3, .bool true]) ∧ Kept [] w w' :=
  partition_any 4 (by omega) [] 3 5 none 0 w ⟨rfl, by simp, fun h => absurd h (by simp)⟩ ⟨by simp, by simp⟩ (by omega) (by omega)
theorem plan_alive (z : Nat) (W : World) (hz : z + 4 ≤ W.heap.size) (h0 : W.heap[z]? = some (.cells #[.string bT] 9 (0, 0))) (h1 : W.heap[z + 1]? = some (.cells #[.string bM, .int .i16 0, .slice (some ⟨z, 0, none⟩) 1 1, .slice none 0 0, .slice none 0 0, .int .i32 0, .string ⟨#[]⟩, .bool false] 46 (0, 0)))
    (h2 : W.heap[z + 2]? = some (.cells #[.int .i32 0, .int .i32 1] 21 (0, 0))) (h3 : W.heap[z + 3]? = some (.cells #[.string ⟨#[]⟩, .string bT, .slice (some ⟨z + 2, 0, none⟩) 2 2] 53 (0, 0))) :
    Calls Tryz.prog 20 #[.int .i64 0, .slice (some ⟨z + 1, 0, none⟩) 1 1, .slice (some ⟨z + 3, 0, none⟩) 1 1] W fun e w' => ∃ g cap A c, e = .returned (.tuple #[.slice (some ⟨g, 0, none⟩) 1 cap, .bool true]) ∧ w'.cell? ⟨g, 0, none⟩ = some (.string ⟨#[109]⟩) ∧ w'.cell? ⟨g, 2, none⟩ = some (.slice A 2 c) ∧ Kept [] W w' := by
  refine (groupPlan_range _ _ _ _ _ W (alive_grp hz h0 h1 h2 h3)).mono ?_
  rintro e w' ⟨v, L, rfl, hL, ho, hp, hk⟩
  rw [alive_canon] at hL
  match L, hL with
  | [(sh, pv)], hL =>
    have hsh : sh = ⟨bM, bT, [0, 1]⟩ := by simpa using hL
    subst hsh
    have hpv := hp _ (.head _)
    obtain ⟨A, c, hpe⟩ := own_form hpv
    have hpe : pv = .slice A 2 c := hpe
    subst hpe
    rcases ho.2 with ⟨_, h⟩ | ⟨g, cap, cur, rfl, h⟩
    · simp at h
    · have hcell := ho.cells (g := g) rfl
      exact ⟨g, cap, A, c, rfl, hcell 0 _ rfl, hcell 2 _ rfl, hk⟩
set_option maxRecDepth 100000 in
set_option maxHeartbeats 3200000 in
theorem groupAlive_any (w : World) : Calls Tryz.prog 12 #[] w fun e w' => e = .returned (.bool true) ∧ Kept [] w w' := by
  have HP := Lib.hid plan_alive
  have HQ := Lib.hid part_alive
  go_enter Tryz.func12, Tryz.ntmps12
  go_wp2_with fail
  have hK := allocs_kept [Obj.cells #[Value.string { data := #[116] }] 9, Obj.cells #[Value.string { data := #[109] }, Value.int IntKind.i16 0, Value.slice (some { block := w.heap.size, off := 0 }) 1 1, Value.slice none 0 0, Value.slice none 0 0, Value.int IntKind.i32 0, Value.string { data := #[] }, Value.bool false] 46, Obj.cells #[Value.int IntKind.i32 0, Value.int IntKind.i32 1] 21, Obj.cells #[Value.string { data := #[] }, Value.string { data := #[116] }, Value.slice (some { block := w.heap.size + 1 + 1, off := 0 }) 2 2] 53] w
  have hA := allocs_at w [Obj.cells #[Value.string { data := #[116] }] 9, Obj.cells #[Value.string { data := #[109] }, Value.int IntKind.i16 0, Value.slice (some { block := w.heap.size, off := 0 }) 1 1, Value.slice none 0 0, Value.slice none 0 0, Value.int IntKind.i32 0, Value.string { data := #[] }, Value.bool false] 46, Obj.cells #[Value.int IntKind.i32 0, Value.int IntKind.i32 1] 21, Obj.cells #[Value.string { data := #[] }, Value.string { data := #[116] }, Value.slice (some { block := w.heap.size + 1 + 1, off := 0 }) 2 2] 53]
  have hS := congrArg Array.size (allocs_heap [Obj.cells #[Value.string { data := #[116] }] 9, Obj.cells #[Value.string { data := #[109] }, Value.int IntKind.i16 0, Value.slice (some { block := w.heap.size, off := 0 }) 1 1, Value.slice none 0 0, Value.slice none 0 0, Value.int IntKind.i32 0, Value.string { data := #[] }, Value.bool false] 46, Obj.cells #[Value.int IntKind.i32 0, Value.int IntKind.i32 1] 21, Obj.cells #[Value.string { data := #[] }, Value.string { data := #[116] }, Value.slice (some { block := w.heap.size + 1 + 1, off := 0 }) 2 2] 53] w)
  simp only [allocs, List.foldl_cons, List.foldl_nil] at hK hA hS
  rw [Array.size_append] at hS
  simp only [List.size_toArray, List.length_cons, List.length_nil, Nat.zero_add, Nat.reduceAdd] at hS
  have hk4 := HP.out w.heap.size _ (by rw [hS]; exact Nat.le_refl _) (hA 0 _ rfl) (hA 1 _ rfl) (hA 2 _ rfl) (hA 3 _ rfl)
  refine hk4.mono ?_
  rintro e w1 ⟨g, cap, A, c, rfl, hc0, hc2, hk1⟩
  have HK1 := Lib.hid (hK.trans0 hk1)
  clear hk4 hK hA hS hk1
  have hf1 : True := trivial
  go_wp2_with (with_reducible refine (HQ.out _).mono ?_; rintro e w2 ⟨rfl, hk2⟩; have h20 := hk2.cell hc0 (by simp); have h22 := hk2.cell hc2 (by simp); have HK2 := Lib.hid hk2; clear hk2)
  go_ret
  exact ⟨rfl, HK1.out.trans0 HK2.out⟩
end Go.Proofs.YtghgffhcdnmpnaaGreat
