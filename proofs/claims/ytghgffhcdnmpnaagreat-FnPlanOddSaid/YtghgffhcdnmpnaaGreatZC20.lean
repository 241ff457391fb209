/-
  The closure of Partition, for any kind of partitioner (PartK). Conditions: a key of 100 bytes at most; 1 to 2147483647 partitions.
-/
import Derived.Test.YtghgffhcdnmpnaaGreatZC17
import Derived.Test.YtghgffhcdnmpnaaGreatZH3
import Derived.Test.YtghgffhcdnmpnaaGreatZC15
namespace Go.Proofs.YtghgffhcdnmpnaaGreat
open Go.RowKit Go.Sort

/-- A kind of partitioner: how it is made, and what it answers. -/
structure PartK (kind : Nat) (T : TypeId) (M : FuncId) (ans : List Int → Int → Int → Int) (Ok : Value → Nat → World → Prop) : Prop where
  made : ∀ W, Calls Tryz.prog 31 #[.int .i64 kind] W fun e w' => ∃ rv, e = .returned (.iface T rv) ∧ Ok rv W.heap.size w' ∧ Kept [] W w'
  ok : ∀ rv B a b, Ok rv B a → Kept [] a b → Ok rv B b
  low : ∀ rv B B' w, Ok rv B w → B' ≤ B → Ok rv B' w
  find : ∀ (rv : Value) (w : World), (method 518 T rv "Partition").run Tryz.prog w = .ok (M, rv) w
  enters : ∀ (args : Array Value) (w : World), (callFunc M args).run Tryz.prog w = .ok (.enter M args) w
  call : ∀ W rv B bm A c key part n, Ok rv B W → W.heap[bm]? = some (.cells #[.string ⟨#[]⟩, .iface 56 (.slice A key.length c), .nilIface, .int .i32 part] 61 (0, 0)) → SlIs W 1 A key.length (bytesV key) → isKey key → key.length ≤ c → 1 ≤ n → n ≤ 2147483647 →
    Calls Tryz.prog M #[rv, .pointer (some ⟨bm, 0, none⟩), .int .i32 n] W fun e w' => e = .returned (.tuple #[.int .i32 (ans key part n), .nilIface]) ∧ Below B W w' ∧ ∀ rv', Ok rv' B W → Ok rv' B w'
def paF (part : Int) (KV : Value) (m q : Nat) (bs : List Value) (ix : Nat) (v : Value) (W : World) : Prop :=
  match ix with
  | 0 => v = .int .i32 part
  | 1 => v = KV
  | 2 => ∃ A1 c1, v = .slice A1 m c1 ∧ W.ownsRow q 5 1 v m bs
  | 3 => ∃ A1 c1, v = .iface 56 (.slice A1 m c1) ∧ W.ownsRow q 5 1 (.slice A1 m c1) m bs
  | 4 => ∃ A1 c1, v = .agg #[.string ⟨#[]⟩, .iface 56 (.slice A1 m c1), .nilIface, .int .i32 part] ∧ W.ownsRow q 5 1 (.slice A1 m c1) m bs
  | 5 => ∃ A1 c1 bm, v = .pointer (some ⟨bm, 0, none⟩) ∧ W.heap[bm]? = some (.cells #[.string ⟨#[]⟩, .iface 56 (.slice A1 m c1), .nilIface, .int .i32 part] 61 (0, 0)) ∧ W.ownsRow q 5 1 (.slice A1 m c1) m bs
  | _ => True
theorem paF_stable {part KV m q bs} : ∀ ix v w w', paF part KV m q bs ix v w → Kept [] w w' → paF part KV m q bs ix v w' := by
  intro ix v w w' h k
  unfold paF at h ⊢
  split at h <;> (first | (exact h) | (obtain ⟨A1, c1, bm, h1, h2, h3⟩ := h; exact ⟨A1, c1, bm, h1, k.heap h2 (by simp), own_kept0 h3 k⟩) | (obtain ⟨A1, c1, h1, h2⟩ := h; exact ⟨A1, c1, h1, own_kept0 h2 k⟩))
def pbF (kind : Nat) (T : TypeId) (bm : Nat) (n r : Int) (B : Nat) (Ok : Value → Nat → World → Prop) (ix : Nat) (v : Value) (W : World) : Prop :=
  match ix with
  | 0 => v = .int .i64 kind
  | 1 => ∃ rv, v = .iface T rv ∧ Ok rv B W
  | 2 => v = .pointer (some ⟨bm, 0, none⟩)
  | 3 => v = .int .i32 n
  | 4 => v = .tuple #[.int .i32 r, .nilIface]
  | 5 => v = .tuple #[.int .i32 r, .nilIface]
  | 6 => v = .int .i32 r
  | 7 => v = .nilIface
  | 8 => v = .int .i32 r
  | _ => True
def pbE (Ok : Value → Nat → World → Prop) (B i : Nat) (a b : World) : Prop := match i with | 4 => Below B a b ∧ ∀ rv, Ok rv B a → Ok rv B b | _ => Kept [] a b
theorem pbE_below {Ok : Value → Nat → World → Prop} {B i : Nat} {a b : World} (h : pbE Ok B i a b) (hB : B ≤ a.heap.size) : Below B a b := by
  unfold pbE at h
  split at h
  · exact h.1
  · exact h.belowB hB (by simp)
theorem pbF_stable {kind T bm n r B} {Ok : Value → Nat → World → Prop} (hok : ∀ rv B a b, Ok rv B a → Kept [] a b → Ok rv B b) : ∀ i j v w w', i ≠ j → pbF kind T bm n r B Ok j v w → pbE Ok B i w w' → pbF kind T bm n r B Ok j v w' := by
  intro i j v w w' _ h hk
  unfold pbF at h ⊢
  split at h <;> (first | (exact h) | skip)
  obtain ⟨rv, h1, h2⟩ := h
  unfold pbE at hk
  split at hk
  · exact ⟨rv, h1, hk.2 rv h2⟩
  · exact ⟨rv, h1, hok rv B _ _ h2 hk⟩
def pcF (bo : Nat) (r : Int) (ix : Nat) (v : Value) (W : World) : Prop :=
  match ix with
  | 0 => v = .int .i32 r
  | 1 => v = .nilIface
  | 2 => v = .bool true
  | 3 => W.heap[bo]? = some (.cells #[.int .i32 r] 21 (0, 0))
  | _ => True
def pcE (bo i : Nat) (a b : World) : Prop := Kept (match i with | 3 => [bo] | _ => []) a b
theorem pcE_R {bo i : Nat} {a b c : World} (h : Kept [bo] a b) (k : pcE bo i b c) : Kept [bo] a c := by
  unfold pcE at k
  split at k
  · exact h.trans k (fun x hx => .inl hx)
  · exact h.trans0 k
theorem pcF_stable {bo r} : ∀ i j v w w', i ≠ j → pcF bo r j v w → pcE bo i w w' → pcF bo r j v w' := by
  intro i j v w w' hij h hk
  unfold pcF at h ⊢
  split at h <;> (first | (exact h) | skip)
  unfold pcE at hk
  split at hk
  · exact absurd rfl hij
  · exact hk.heap h (by simp)
def pcPre (bo i : Nat) (w : World) : Prop := i = 3 → w.heap[bo]? = some (.cells #[.int .i32 0] 21 (0, 0))
theorem pcPre_stable {bo : Nat} : ∀ i j w w', i ≠ j → pcPre bo j w → pcE bo i w w' → pcPre bo j w' := by
  intro i j w w' hij h hk hj
  subst hj
  unfold pcE at hk
  split at hk
  · exact absurd rfl hij
  · exact hk.heap (h rfl) (by simp)

set_option maxRecDepth 100000 in
set_option maxHeartbeats 3200000 in
/-- The closure of Partition. -/
theorem partClosure {kind : Nat} {T : TypeId} {M : FuncId} {ans : List Int → Int → Int → Int} {Ok : Value → Nat → World → Prop} (K : PartK kind T M ans Ok) (key : List Int) (part n : Int) (A : Option Addr) (c : Nat) (bpp bk bi bn bo bok : Nat) (w : World)
    (hcp : w.cell? ⟨bpp, 0, none⟩ = some (.int .i32 part)) (hck : w.cell? ⟨bk, 0, none⟩ = some (.slice A key.length c)) (hci : w.cell? ⟨bi, 0, none⟩ = some (.int .i64 kind)) (hcn : w.cell? ⟨bn, 0, none⟩ = some (.int .i32 n)) (ho : w.heap[bo]? = some (.cells #[.int .i32 0] 21 (0, 0))) (hok : w.heap[bok]? = some (.cells #[.bool false] 4 (0, 0))) (hne : bo ≠ bok)
    (hkey : SlIs w 1 A key.length (bytesV key)) (hk : isKey key) (hn1 : 1 ≤ n) (hn2 : n ≤ 2147483647) :
    Calls Tryz.prog 29 #[.pointer (some ⟨bpp, 0, none⟩), .pointer (some ⟨bk, 0, none⟩), .pointer (some ⟨bi, 0, none⟩), .pointer (some ⟨bn, 0, none⟩), .pointer (some ⟨bo, 0, none⟩), .pointer (some ⟨bok, 0, none⟩)] w fun e w' =>
      e = .returned (.tuple #[]) ∧ w'.heap[bo]? = some (.cells #[.int .i32 (ans key part n)] 21 (0, 0)) ∧ w'.heap[bok]? = some (.cells #[.bool true] 4 (0, 0)) ∧ Kept [bo, bok] w w' := by
  have HCP := Lib.hid hcp
  have HCK := Lib.hid hck
  have HCI := Lib.hid hci
  have HCN := Lib.hid hcn
  have HO := Lib.hid ho
  have HOK := Lib.hid hok
  have HKEY := Lib.hid hkey
  have HISK := Lib.hid hk
  have hl := hk.1
  clear hcp hck hci hcn ho hok hkey hk
  go_enter Tryz.func29, Tryz.ntmps29
  go_wp2
  refine wp_region_facts' 6 (Kept []) (paF part (.slice A key.length c) key.length w.heap.size (bytesV key)) mixed (by kernel_rfl) ((Kept.refl _ _).drew) (fun _ _ _ h k => h.trans0 k) paF_stable ?_ ?_
  · refine ⟨?_, ?_, ?_, ?_, ?_, ?_, trivial⟩
    all_goals go_light
    all_goals intro a W hR hs hd
    all_goals have p0 : a.tmps[0]? = some (.pointer (some ⟨bpp, 0, none⟩)) := hs.2.2 0 (by decide)
    all_goals have p1 : a.tmps[1]? = some (.pointer (some ⟨bk, 0, none⟩)) := hs.2.2 1 (by decide)
    all_goals have hRr : Kept [] W W := Kept.refl [] W
    all_goals have hcp : W.cell? ⟨bpp, 0, none⟩ = some (.int .i32 part) := hR.cell HCP.out (by simp)
    all_goals have hck : W.cell? ⟨bk, 0, none⟩ = some (.slice A key.length c) := hR.cell HCK.out (by simp)
    · refine ow_value (w' := W) (v := .int .i32 part) ?_ (.mk hRr rfl rfl)
      simp [go_sem, p0, hcp]
    · refine ow_value (w' := W) (v := .slice A key.length c) ?_ (.mk hRr rfl rfl)
      simp [go_sem, p1, hck]
    · have q1 : _ = _ := hd.1 rfl
      refine ow_call (w' := W) (f := 30) (args := #[.slice A key.length c]) (by simp [go_sem, q1]) (copied_any A key.length c (bytesV key) W (HKEY.out.kept0 hR) (bytesV_one _) (by omega)) ?_
      rintro e w'' ⟨v, rfl, h1, h2⟩
      obtain ⟨A1, c1, rfl⟩ := own_form h1
      exact ⟨_, rfl, .mk h2 ⟨A1, c1, rfl, own_mono h1 hR.size⟩ rfl⟩
    · have q2 := hd.1 rfl
      obtain ⟨A1, c1, q2, ho⟩ := q2
      change _ = _ at q2
      rw [q2] at ho
      refine ow_value (w' := W) (v := .iface 56 (.slice A1 key.length c1)) ?_ (.mk hRr ⟨A1, c1, rfl, ho⟩ rfl)
      simp [go_sem, q2]
    · have q0 : _ = _ := hd.1 rfl
      have q3 := hd.2.1 rfl
      obtain ⟨A1, c1, q3, ho⟩ := q3
      change _ = _ at q3
      refine ow_value (w' := W) (v := .agg #[.string ⟨#[]⟩, .iface 56 (.slice A1 key.length c1), .nilIface, .int .i32 part]) ?_ (.mk hRr ⟨A1, c1, rfl, ho⟩ rfl)
      simp [go_sem, q0, q3]
    · have q4 := hd.1 rfl
      obtain ⟨A1, c1, q4, ho⟩ := q4
      change _ = _ at q4
      refine ow_value (w' := W.alloc (.cells #[.string ⟨#[]⟩, .iface 56 (.slice A1 key.length c1), .nilIface, .int .i32 part] 61)) (v := .pointer (some ⟨W.heap.size, 0, none⟩)) ?_ (.mk ((Kept.refl _ _).alloc _) ⟨A1, c1, W.heap.size, rfl, heap_alloc_new _ _, own_kept0 ho ((Kept.refl _ _).alloc _)⟩ rfl)
      simp [go_sem, q4]
  · intro f W hR hf
    obtain ⟨f0, f1, f2, f3, f4, f5, -⟩ := hf
    change f 9 = _ at f0
    change f 10 = _ at f1
    change ∃ A1 c1, (f 11) = .slice A1 key.length c1 ∧ W.ownsRow w.heap.size 5 1 (f 11) key.length (bytesV key) at f2
    obtain ⟨x2, g2⟩ : ∃ x, f 11 = x := ⟨_, rfl⟩
    rw [g2] at f2
    change ∃ A1 c1, (f 12) = .iface 56 (.slice A1 key.length c1) ∧ W.ownsRow w.heap.size 5 1 (.slice A1 key.length c1) key.length (bytesV key) at f3
    obtain ⟨x3, g3⟩ : ∃ x, f 12 = x := ⟨_, rfl⟩
    rw [g3] at f3
    change ∃ A1 c1, (f 13) = .agg #[.string ⟨#[]⟩, .iface 56 (.slice A1 key.length c1), .nilIface, .int .i32 part] ∧ W.ownsRow w.heap.size 5 1 (.slice A1 key.length c1) key.length (bytesV key) at f4
    obtain ⟨x4, g4⟩ : ∃ x, f 13 = x := ⟨_, rfl⟩
    rw [g4] at f4
    change ∃ A1 c1 bm, (f 14) = .pointer (some ⟨bm, 0, none⟩) ∧ W.heap[bm]? = some (.cells #[.string ⟨#[]⟩, .iface 56 (.slice A1 key.length c1), .nilIface, .int .i32 part] 61 (0, 0)) ∧ W.ownsRow w.heap.size 5 1 (.slice A1 key.length c1) key.length (bytesV key) at f5
    obtain ⟨x5, g5⟩ : ∃ x, f 14 = x := ⟨_, rfl⟩
    rw [g5] at f5
    simp only [headDsts, List.take_succ_cons, List.take_zero, List.filterMap_cons, List.filterMap_nil, setAll, f0, f1, g2, g3, g4, g5, List.setIfInBounds_toArray, List.set_cons_succ, List.set_cons_zero, List.drop_succ_cons, List.drop_zero]
    clear f0 f1 g2 g3 g4 g5 f
    obtain ⟨A1, c1, bm, rfl, hbm, hom⟩ := f5
    have HBM := Lib.hid hbm
    have HOM := Lib.hid hom
    have HR := Lib.hid hR
    clear hbm hom hR
    go_wp2
    obtain ⟨W0, hW0⟩ : ∃ W0, W0 = W := ⟨_, rfl⟩
    rw [← hW0] at HBM HOM HR ⊢
    clear hW0
    obtain ⟨A1', c1', he1, hsl1, hlt1⟩ := own_sl HOM.out
    cases he1
    have HSL := Lib.hid hsl1
    have HCAP := Lib.hid (own_cap HOM.out)
    have hbmlt : bm < W0.heap.size := (Array.getElem?_eq_some_iff.1 HBM.out).1
    have hold : ∀ W, Below W0.heap.size W0 W → ∀ (p : Addr) (v : Value), w.cell? p = some v → W.cell? p = some v := fun W hB p v hp => by
      have h1 := HR.out.cell hp (by simp)
      rw [← h1]
      exact World.cell?_of_block (hB.block p.block (World.block_lt_of_cell? _ _ h1))
    have hmsg : ∀ W, Below W0.heap.size W0 W → W.heap[bm]? = some (.cells #[.string ⟨#[]⟩, .iface 56 (.slice A1 key.length c1), .nilIface, .int .i32 part] 61 (0, 0)) ∧ SlIs W 1 A1 key.length (bytesV key) := fun W hB => by
      refine ⟨(hB.block bm hbmlt).trans HBM.out, ⟨HSL.out.1, HSL.out.2.1, fun hn => ?_⟩⟩
      obtain ⟨b, off, hA, hcc⟩ := HSL.out.2.2 hn
      exact ⟨b, off, hA, fun i v hv => by rw [← hcc i v hv]; exact World.cell?_of_block (hB.block b (World.block_lt_of_cell? _ _ (hcc i v hv)))⟩
    refine wp_region_effs' 9 (fun a b => Below W0.heap.size a b ∧ W0.heap.size ≤ b.heap.size) (pbE Ok W0.heap.size) (fun _ _ => True) (pbF kind T bm n (ans key part n) W0.heap.size Ok) mixed (by kernel_rfl) ⟨Kept.below ((Kept.refl [] _).drew), Nat.le_refl _⟩ (fun i a b c h k => ⟨h.1.trans (pbE_below k h.2), Nat.le_trans h.2 (pbE_below k h.2).size⟩) (fun _ _ => trivial) (pbF_stable K.ok) (fun _ _ _ _ _ _ _ => trivial) ?_ ?_
    · refine ⟨?_, ?_, ?_, ?_, ?_, ?_, ?_, ?_, ?_, trivial⟩
      all_goals go_light
      all_goals intro a W hR hpre hs hd
      all_goals have p2 : a.tmps[2]? = some (.pointer (some ⟨bi, 0, none⟩)) := hs.2.2 2 (by decide)
      all_goals have p6 : a.tmps[6]? = some (.pointer (some ⟨bm, 0, none⟩)) := hs.2.2 6 (by decide)
      all_goals have p3 : a.tmps[3]? = some (.pointer (some ⟨bn, 0, none⟩)) := hs.2.2 3 (by decide)
      all_goals replace hR := hR.1
      all_goals have hRr : Kept [] W W := Kept.refl [] W
      all_goals have hci : W.cell? ⟨bi, 0, none⟩ = some (.int .i64 kind) := hold W hR _ _ HCI.out
      all_goals have hcn : W.cell? ⟨bn, 0, none⟩ = some (.int .i32 n) := hold W hR _ _ HCN.out
      · refine ow_value (w' := W) (v := .int .i64 kind) ?_ (.mk hRr rfl rfl)
        simp [go_sem, p2, hci]
      · have q0 : _ = _ := hd.1 rfl
        refine ow_call (w' := W) (f := 31) (args := #[.int .i64 kind]) (by simp [go_sem, q0]) (K.made W) ?_
        rintro e w'' ⟨rv, rfl, h1, h2⟩
        exact ⟨_, rfl, .mk h2 ⟨rv, rfl, K.low rv _ _ _ h1 hR.size⟩ rfl⟩
      · refine ow_value (w' := W) (v := .pointer (some ⟨bm, 0, none⟩)) ?_ (.mk hRr rfl rfl)
        simp [go_sem, p6]
      · refine ow_value (w' := W) (v := .int .i32 n) ?_ (.mk hRr rfl rfl)
        simp [go_sem, p3, hcn]
      · have q1 := hd.1 rfl
        have q2 : _ = _ := hd.2.1 rfl
        have q3 : _ = _ := hd.2.2.1 rfl
        obtain ⟨rv, q1, hok1⟩ := q1
        change _ = _ at q1
        have hfi := K.find
        have hen := K.enters
        obtain ⟨hbmW, hslW⟩ := hmsg W hR
        refine ow_call (w' := W) (f := M) (args := #[rv, .pointer (some ⟨bm, 0, none⟩), .int .i32 n]) (by simp [go_sem, q1, q2, q3, hfi, hen]) (K.call W rv W0.heap.size bm A1 c1 key part n hok1 hbmW hslW HISK.out HCAP.out hn1 hn2) ?_
        rintro e w'' ⟨rfl, h1, h2⟩
        exact ⟨_, rfl, .mk ⟨h1, h2⟩ rfl rfl⟩
      · have q4 : _ = _ := hd.1 rfl
        refine ow_value (w' := W) (v := .tuple #[.int .i32 (ans key part n), .nilIface]) ?_ (.mk hRr rfl rfl)
        simp [go_sem, q4]
      · have q5 : _ = _ := hd.1 rfl
        refine ow_value (w' := W) (v := .int .i32 (ans key part n)) ?_ (.mk hRr rfl rfl)
        simp [go_sem, q5]
      · have q5 : _ = _ := hd.1 rfl
        refine ow_value (w' := W) (v := .nilIface) ?_ (.mk hRr rfl rfl)
        simp [go_sem, q5]
      · have q6 : _ = _ := hd.1 rfl
        refine ow_value (w' := W) (v := .int .i32 (ans key part n)) ?_ (.mk hRr rfl rfl)
        simp [go_sem, q6]
    · intro f W hR hf
      obtain ⟨f0, f1, f2, f3, f4, f5, f6, f7, f8, -⟩ := hf
      change f 16 = _ at f0
      change ∃ rv, (f 17) = .iface T rv ∧ Ok rv W0.heap.size W at f1
      obtain ⟨x1, g1⟩ : ∃ x, f 17 = x := ⟨_, rfl⟩
      rw [g1] at f1
      change f 18 = _ at f2
      change f 19 = _ at f3
      change f 20 = _ at f4
      change f 15 = _ at f5
      change f 21 = _ at f6
      change f 22 = _ at f7
      change f 7 = _ at f8
      simp only [headDsts, List.take_succ_cons, List.take_zero, List.filterMap_cons, List.filterMap_nil, setAll, f0, g1, f2, f3, f4, f5, f6, f7, f8, List.setIfInBounds_toArray, List.set_cons_succ, List.set_cons_zero, List.drop_succ_cons, List.drop_zero]
      clear f0 g1 f2 f3 f4 f5 f6 f7 f8 f
      replace hR := hR.1
      have hbo0 : W0.heap[bo]? = some (.cells #[.int .i32 0] 21 (0, 0)) := HR.out.heap HO.out (by simp)
      have hbk0 : W0.heap[bok]? = some (.cells #[.bool false] 4 (0, 0)) := HR.out.heap HOK.out (by simp)
      have hbo1 := (hR.block bo (Array.getElem?_eq_some_iff.1 hbo0).1).trans hbo0
      have hbk1 := (hR.block bok (Array.getElem?_eq_some_iff.1 hbk0).1).trans hbk0
      have hKw : Kept [] w W := HR.out.trans0 ⟨hR.os, hR.tape, hR.output, hR.size, fun k hk _ => hR.block k hk⟩
      have HBO := Lib.hid hbo1
      have HBK := Lib.hid hbk1
      have HKW := Lib.hid hKw
      clear hbo0 hbk0 hbo1 hbk1 hKw hR
      go_wp2
      refine wp_region_effs' 4 (Kept [bo]) (pcE bo) (pcPre bo) (pcF bo (ans key part n)) mixed (by kernel_rfl) ((Kept.refl _ _).drew) (fun i _ _ _ h k => pcE_R h k) (fun _ _ _ => HBO.out) pcF_stable pcPre_stable ?_ ?_
      · refine ⟨?_, ?_, ?_, ?_, trivial⟩
        all_goals go_light
        all_goals intro a W hR hpre hs hd
        all_goals have p7 : a.tmps[7]? = some (.int .i32 (ans key part n)) := hs.2.2 7 (by decide)
        all_goals have p8 : a.tmps[8]? = some (.nilIface) := hs.2.2 8 (by decide)
        all_goals have p4 : a.tmps[4]? = some (.pointer (some ⟨bo, 0, none⟩)) := hs.2.2 4 (by decide)
        all_goals have hRr : Kept [] W W := Kept.refl [] W
        · refine ow_value (w' := W) (v := .int .i32 (ans key part n)) ?_ (.mk hRr rfl rfl)
          simp [go_sem, p7]
        · refine ow_value (w' := W) (v := .nilIface) ?_ (.mk hRr rfl rfl)
          simp [go_sem, p8]
        · have q1 : _ = _ := hd.1 rfl
          refine ow_value (w' := W) (v := .bool true) ?_ (.mk hRr rfl rfl)
          simp [go_sem, q1]
        · have q0 : _ = _ := hd.1 rfl
          have hb := hpre rfl
          have hc : W.cell? ⟨bo, 0, none⟩ = some (.int .i32 0) := by simp [World.cell?, hb]
          have hf : W.frozen? ⟨bo, 0, none⟩ = false := by simp [World.frozen?, hb]
          refine ow_skip (w' := W.setCell ⟨bo, 0, none⟩ (.int .i32 (ans key part n))) (by simp [go_sem, p4, q0, hc, hf]) ?_
          have h5 := heap_setCell_same W bo 0 _ 21 (.int .i32 (ans key part n)) hb
          exact ⟨undef, rfl, (Kept.refl _ _).setCell (.inl (by simp)) _, h5, fun _ => h5⟩
      · intro f W_2 hR hf
        obtain ⟨f0, f1, f2, f3, -⟩ := hf
        change f 23 = _ at f0
        change f 24 = _ at f1
        change f 25 = _ at f2
        change W_2.heap[bo]? = some (.cells #[.int .i32 (ans key part n)] 21 (0, 0)) at f3
        simp only [headDsts, List.take_succ_cons, List.take_zero, List.filterMap_cons, List.filterMap_nil, setAll, f0, f1, f2, List.setIfInBounds_toArray, List.set_cons_succ, List.set_cons_zero, List.drop_succ_cons, List.drop_zero]
        clear f0 f1 f2 f
        have hbk2 := hR.heap HBK.out (fun hm => hne (List.mem_singleton.1 hm).symm)
        have hcb : W_2.cell? ⟨bok, 0, none⟩ = some (.bool false) := by simp [World.cell?, hbk2]
        have hfb : W_2.frozen? ⟨bok, 0, none⟩ = false := by simp [World.frozen?, hbk2]
        have h6 := heap_setCell_same W_2 bok 0 _ 4 (.bool true) hbk2
        have h7 : (W_2.setCell ⟨bok, 0, none⟩ (.bool true)).heap[bo]? = some (.cells #[.int .i32 (ans key part n)] 21 (0, 0)) := by
          rw [heap_setCell_other _ _ _ _ (by simpa using hne)]
          exact f3
        have hKf : Kept [bo, bok] w (W_2.setCell ⟨bok, 0, none⟩ (.bool true)) := ((HKW.out.mono (by simp)).trans hR (fun x hx => .inl (by rw [List.mem_singleton.1 hx]; simp))).setCell (.inl (by simp)) _
        have H6 := Lib.hid h6
        have H7 := Lib.hid h7
        have HKF := Lib.hid hKf
        clear h6 h7 hKf hbk2 f3 hR
        go_wp2
        refine bodyPost_end (results_none rfl _ _ _) rfl ?_
        exact ⟨rfl, H7.out, H6.out, HKF.out⟩

end Go.Proofs.YtghgffhcdnmpnaaGreat
/-
  Partition of the thin package: what it answers. Conditions: a key of 100 bytes at most; 1 to 2147483647 partitions.
-/
namespace Go.Proofs.YtghgffhcdnmpnaaGreat
open Go.RowKit Go.Sort
theorem key_apart {w : World} {g : Nat} {A : Option Addr} {key : List Int} {s k : Int} (h : SlIs w 1 A key.length (bytesV key)) (hg : w.heap[g]? = some (sumObj s k)) : ∀ a, A = some a → 0 < key.length → a.block ≠ g := by
  rintro a ha hn rfl
  obtain ⟨b, off, hA, hc⟩ := h.2.2 hn
  rw [hA] at ha
  cases ha
  obtain ⟨y, hy⟩ : ∃ y, key[0]? = some y := ⟨_, List.getElem?_eq_getElem hn⟩
  have := hc 0 _ (bytesV_get hy)
  simp only [World.cell?, hg, sumObj] at this
  rcases Nat.lt_or_ge (off + 0) 2 with h1 | h1
  · rcases (by omega : off + 0 = 0 ∨ off + 0 = 1) with e | e <;> rw [e] at this <;> simp at this
  · have e : (#[Value.int IntKind.u32 s, Value.int IntKind.i64 k])[off + 0]? = none := by
      rw [Array.getElem?_eq_none]
      simpa using h1
    rw [e] at this
    cases this
theorem hs_ne {w : World} {bh g g' : Nat} {r u : Bool} {s k : Int} (hh : w.heap[bh]? = some (hashObj g' r u)) (hg : w.heap[g]? = some (sumObj s k)) : bh ≠ g := by
  rintro rfl
  rw [hh] at hg
  injection hg with hg
  injection hg with h1 h2
  cases h2
/-- A partitioner by a sum. -/
def HashOk (r u : Bool) (k : Int) (rv : Value) (B : Nat) (w : World) : Prop := ∃ bh g s, rv = .pointer (some ⟨bh, 0, none⟩) ∧ B ≤ bh ∧ B ≤ g ∧ w.heap[bh]? = some (hashObj g r u) ∧ w.heap[g]? = some (sumObj s k)
theorem hashK {kind : Nat} {r u : Bool} {k : Int} {s0 : Int}
    (hmade : ∀ w : World, Calls Tryz.prog 31 #[.int .i64 kind] w fun e w' => e = .returned (.iface 113 (.pointer (some ⟨w.heap.size, 0, none⟩))) ∧ w' = madeW w r u s0 k)
    (hcall : ∀ (bh g bm : Nat) (s : Int) (A : Option Addr) (c : Nat) (key : List Int) (part n : Int) (w : World) (_ : w.heap[bh]? = some (hashObj g r u)) (_ : w.heap[g]? = some (sumObj s k)) (_ : w.heap[bm]? = some (msgObj A key.length c part)) (_ : SlIs w 1 A key.length (bytesV key)) (_ : ∀ a, A = some a → 0 < key.length → a.block ≠ g) (_ : isKey key) (_ : 1 ≤ n) (_ : n ≤ 2147483647),
      Calls Tryz.prog 137 #[.pointer (some ⟨bh, 0, none⟩), .pointer (some ⟨bm, 0, none⟩), .int .i32 n] w fun e w' => e = .returned (.tuple #[.int .i32 (ansOf kind key part n), .nilIface]) ∧ (∃ s, w'.heap[g]? = some (sumObj s k)) ∧ Kept [g] w w') :
    PartK kind 113 137 (ansOf kind) (HashOk r u k) where
  made W := by
    refine (hmade W).mono ?_
    rintro e w' ⟨rfl, rfl⟩
    refine ⟨_, rfl, ⟨W.heap.size, W.heap.size + 1, s0, rfl, by omega, by omega, ?_, ?_⟩, ((Kept.refl _ _).alloc _).alloc _⟩
    · rw [madeW, Below.heap_alloc _ _ _ (by simp), heap_alloc_new]
    · have := heap_alloc_new (W.alloc (hashObj (W.heap.size + 1) r u)) (sumObj s0 k)
      simpa [madeW] using this
  ok rv B a b := by
    rintro ⟨bh, g, s, h1, h2, h3, h4, h5⟩ hk
    exact ⟨bh, g, s, h1, h2, h3, hk.heap h4 (by simp), hk.heap h5 (by simp)⟩
  low rv B B' w := by
    rintro ⟨bh, g, s, h1, h2, h3, h4, h5⟩ hb
    exact ⟨bh, g, s, h1, by omega, by omega, h4, h5⟩
  find := fun _ _ => by kernel_rfl
  enters := enters_of Tryz.func137 (by kernel_rfl) rfl
  call W rv B bm A c key part n := by
    rintro ⟨bh, g, s, rfl, h2, h3, h4, h5⟩ hbm hkey hk hc hn1 hn2
    refine (hcall bh g bm s A c key part n W h4 h5 hbm hkey (key_apart hkey h5) hk hn1 hn2).mono ?_
    rintro e w' ⟨rfl, ⟨s', hs'⟩, hkk⟩
    have hgl : g < W.heap.size := (Array.getElem?_eq_some_iff.1 h5).1
    refine ⟨rfl, hkk.belowB (by omega) (by simpa using h3), ?_⟩
    rintro rv' ⟨bh', g', s1, e1, e2, e3, e4, e5⟩
    refine ⟨bh', g', if g' = g then s' else s1, e1, e2, e3, hkk.heap e4 (by simpa using hs_ne e4 h5), ?_⟩
    by_cases hgg : g' = g
    · subst hgg
      rw [if_pos rfl]
      exact hs'
    · rw [if_neg hgg]
      exact hkk.heap e5 (by simpa using hgg)
theorem partK0 : PartK 0 113 137 (ansOf 0) (HashOk false false 0) := hashK made0 hash0_any
theorem partK1 : PartK 1 113 137 (ansOf 1) (HashOk true false 0) := hashK made1 hash1_any
theorem partK2 : PartK 2 113 137 (ansOf 2) (HashOk false true 1) := hashK made2 hash2_any
theorem partK3 : PartK 3 119 139 (ansOf 3) (fun _ B w => B ≤ w.heap.size) where
  made W := (made3 W).mono fun e w' ⟨h1, h2⟩ => ⟨_, h1, h2.size, h2⟩
  ok := fun _ _ _ _ h k => Nat.le_trans h k.size
  low := fun _ _ _ _ h k => Nat.le_trans k h
  find := fun _ _ => by kernel_rfl
  enters := enters_of Tryz.func139 (by kernel_rfl) rfl
  call W rv B bm A c key part n := fun hB hbm hkey hk hc hn1 _ => (mur_any rv bm A c key part n W hbm hkey hc hk hn1).mono fun e w' ⟨h1, h2⟩ => ⟨h1, h2.belowB hB (by simp), fun _ h => Nat.le_trans h h2.size⟩
theorem partK4 : PartK 4 122 143 (ansOf 4) (fun _ _ _ => True) where
  made W := (partitioner4 W).mono fun e w' ⟨h1, h2⟩ => ⟨_, h1, trivial, h2 ▸ (Kept.refl _ _).alloc _⟩
  ok := fun _ _ _ _ _ _ => trivial
  low := fun _ _ _ _ _ _ => trivial
  find := fun _ _ => by kernel_rfl
  enters := enters_of Tryz.func143 (by kernel_rfl) rfl
  call W rv B bm A c key part n := fun _ hbm hkey hk hc hn1 _ => (manual_any rv bm part n W (by simp [World.cell?, hbm])).mono fun e w' ⟨h1, h2⟩ => ⟨h1, h2 ▸ Below.refl _ _, fun _ _ => trivial⟩
/-- Some blocks more. -/
def allocs (w : World) (os : List Obj) : World := os.foldl World.alloc w
theorem allocs_heap : ∀ (os : List Obj) (w : World), (allocs w os).heap = w.heap ++ os.toArray
  | [], w => by simp [allocs]
  | o :: os, w => by
    rw [show allocs w (o :: os) = allocs (w.alloc o) os from rfl, allocs_heap os]
    show w.heap.push o ++ os.toArray = _
    simp
theorem allocs_kept (os : List Obj) : ∀ (w : World), Kept [] w (allocs w os) := by
  induction os with
  | nil => exact fun w => Kept.refl _ _
  | cons o os ih => exact fun w => ((Kept.refl [] w).alloc o).trans0 (ih (w.alloc o))
theorem allocs_at (w : World) (os : List Obj) (i : Nat) (o : Obj) (h : os[i]? = some o) : (allocs w os).heap[w.heap.size + i]? = some o := by
  rw [allocs_heap, Array.getElem?_append_right (by omega)]
  simpa using h
theorem six_blocks (w : World) (a b c d e f : Obj) : ∃ W, W = ((((((w.alloc a).alloc b).alloc c).alloc d).alloc e).alloc f) ∧ W.heap.size = w.heap.size + 6 ∧ Kept [] w W ∧ W.heap[w.heap.size]? = some a ∧ W.heap[w.heap.size + 1]? = some b ∧ W.heap[w.heap.size + 2]? = some c ∧ W.heap[w.heap.size + 3]? = some d ∧ W.heap[w.heap.size + 4]? = some e ∧ W.heap[w.heap.size + 5]? = some f :=
  ⟨allocs w [a, b, c, d, e, f], rfl, by rw [allocs_heap]; simp, allocs_kept _ _, allocs_at w _ 0 a rfl, allocs_at w _ 1 b rfl, allocs_at w _ 2 c rfl, allocs_at w _ 3 d rfl, allocs_at w _ 4 e rfl, allocs_at w _ 5 f rfl⟩
set_option maxRecDepth 100000 in
set_option maxHeartbeats 3200000 in
theorem partition_of {kind : Nat} {T : TypeId} {M : FuncId} {ans : List Int → Int → Int → Int} {Ok : Value → Nat → World → Prop} (K : PartK kind T M ans Ok) (key : List Int) (part n : Int) (A : Option Addr) (c : Nat) (w : World)
    (hkey : SlIs w 1 A key.length (bytesV key)) (hk : isKey key) (hn1 : 1 ≤ n) (hn2 : n ≤ 2147483647) :
    Calls Tryz.prog 13 #[.int .i64 kind, .slice A key.length c, .int .i32 part, .int .i32 n] w fun e w' => e = .returned (.tuple #[.int .i32 (ans key part n), .bool true]) ∧ Kept [] w w' := by
  have HKEY := Lib.hid hkey
  have HISK := Lib.hid hk
  have hmf : ∀ (fn : Fn) (first cap : Array Value) (w : World), (Instr.makeFunc fn first cap).run Tryz.prog w = .ok (.func fn first cap) w := fun _ _ _ _ => rfl
  clear hkey hk
  go_enter Tryz.func13, Tryz.ntmps13
  go_wp2_with fail
  obtain ⟨W5, hW5, hs5, hK5, b0, b1, b2, b3, b4, b5⟩ := six_blocks w (Obj.cells #[Value.int IntKind.i64 kind] 3) (Obj.cells #[Value.slice A key.length c] 22) (Obj.cells #[Value.int IntKind.i32 part] 21) (Obj.cells #[Value.int IntKind.i32 n] 21) (Obj.cells #[Value.int IntKind.i32 0] 21) (Obj.cells #[Value.bool false] 4)
  rw [← hW5]
  obtain ⟨z, hz⟩ : ∃ z, w.heap.size = z := ⟨_, rfl⟩
  rw [hz] at hs5 b0 b1 b2 b3 b4 b5 ⊢
  clear hW5
  simp only [Nat.add_assoc, Nat.reduceAdd]
  obtain ⟨W6, hW6⟩ : ∃ W6, W6 = W5.alloc (.cells #[.bool false] 4) := ⟨_, rfl⟩
  have hK6 : Kept [] W5 W6 := by rw [hW6]; exact (Kept.refl _ _).alloc _
  have hcell : ∀ {k : Nat} {v : Value} {t : TypeId}, W5.heap[k]? = some (.cells #[v] t (0, 0)) → W6.cell? ⟨k, 0, none⟩ = some v := fun h => by have := hK6.heap h (by simp); simp [World.cell?, this]
  have hcl := partClosure K key part n A c (z + 2) (z + 1) z (z + 3) (z + 4) (z + 5) W6 (hcell b2) (hcell b1) (hcell b0) (hcell b3) (hK6.heap b4 (by simp)) (hK6.heap b5 (by simp)) (by omega) ((HKEY.out.kept0 hK5).kept0 hK6) HISK.out hn1 hn2
  have h6 : W6.heap[z + 6]? = some (.cells #[.bool false] 4 (0, 0)) := by rw [hW6, ← hs5, heap_alloc_new]
  have hcf : ∀ (args : Array Value) (w : World), (callFunc 29 args).run Tryz.prog w = .ok (.enter 29 args) w := enters_of Tryz.func29 (by kernel_rfl) rfl
  rw [hW6] at hcl
  have hsafe := safe_any 29 _ W5 _ (fun W => hcf _ W) hcl (fun W' hR => by
    obtain ⟨_, _, hk⟩ := hR
    rw [hs5]
    refine hk.heap ?_ (by simp)
    rw [← hs5, heap_alloc_new])
  refine hsafe.mono ?_
  rintro e w7 ⟨rfl, W', ⟨hb4, hb5, hk⟩, hk7⟩
  rw [hs5] at hk7
  have hb4' := hk7.heap hb4 (by simp)
  have hb5' := hk7.heap hb5 (by simp)
  rw [← hW6] at hk
  have hkw7 : Kept [] w w7 := (((hK5.trans0 hK6).trans hk (fun x hx => .inr (by simp at hx; omega)))).trans hk7 (fun x hx => .inr (by simp at hx; omega))
  have HKW := Lib.hid hkw7
  have HB4 := Lib.hid hb4'
  have HB5 := Lib.hid hb5'
  obtain ⟨r, hr⟩ : ∃ r, ans key part n = r := ⟨_, rfl⟩
  rw [hr] at HB4 hb4'
  have HR := Lib.hid hr
  have c4 : w7.cell? ⟨z + 4, 0, none⟩ = some (.int .i32 r) := by simp [World.cell?, hb4']
  have c5 : w7.cell? ⟨z + 5, 0, none⟩ = some (.bool true) := by simp [World.cell?, hb5']
  have g4 : w7.frozen? ⟨z + 4, 0, none⟩ = false := by simp [World.frozen?, hb4']
  have g5 : w7.frozen? ⟨z + 5, 0, none⟩ = false := by simp [World.frozen?, hb5']
  clear hk hk7 hb4 hb5 hkw7 hcl hsafe b0 b1 b2 b3 b4 b5 hb4' hb5' h6 hcf hW6 hK5 hK6 hcell hr
  go_wp2
  have e4 := heap_setCell_same w7 (z + 4) 0 _ 21 (.int .i32 r) HB4.out
  have e5 : (w7.setCell ⟨z + 4, 0, none⟩ (.int .i32 r)).heap[z + 5]? = some (.cells #[.bool true] 4 (0, 0)) := by
    rw [heap_setCell_other _ _ _ _ (by simp)]
    exact HB5.out
  have e5' := heap_setCell_same _ (z + 5) 0 _ 4 (.bool true) e5
  have e4' : ((w7.setCell ⟨z + 4, 0, none⟩ (.int .i32 r)).setCell ⟨z + 5, 0, none⟩ (.bool true)).heap[z + 4]? = some (.cells #[.int .i32 r] 21 (0, 0)) := by
    rw [heap_setCell_other _ _ _ _ (by simp)]
    exact e4
  have hK : Kept [z + 4, z + 5] w7 ((w7.setCell ⟨z + 4, 0, none⟩ (.int .i32 r)).setCell ⟨z + 5, 0, none⟩ (.bool true)) := ((Kept.refl _ _).setCell (.inl (by simp)) _).setCell (.inl (by simp)) _
  obtain ⟨w8, hw8⟩ : ∃ w8, (w7.setCell ⟨z + 4, 0, none⟩ (.int .i32 r)).setCell ⟨z + 5, 0, none⟩ (.bool true) = w8 := ⟨_, rfl⟩
  rw [hw8] at e4' e5' hK ⊢
  have r4 : w8.cell? ⟨z + 4, 0, none⟩ = some (.int .i32 r) := by simp [World.cell?, e4']
  have r5 : w8.cell? ⟨z + 5, 0, none⟩ = some (.bool true) := by simp [World.cell?, e5']
  clear hw8 e4 e5 e4' e5' c4 c5 g4 g5 hmf
  refine bodyPost_ret (v := .tuple #[.int .i32 r, .bool true]) (by simp [results, Tryz.results13, go_sem, r4, r5]) rfl ⟨by rw [HR.out], ?_⟩
  exact HKW.out.trans hK (fun x hx => .inr (by simp at hx; omega))
/-- Partition of the thin package. -/
theorem partition_any (kind : Nat) (hkd : kind < 5) (key : List Int) (part n : Int) (A : Option Addr) (c : Nat) (w : World)
    (hkey : SlIs w 1 A key.length (bytesV key)) (hk : isKey key) (hn1 : 1 ≤ n) (hn2 : n ≤ 2147483647) :
    Calls Tryz.prog 13 #[.int .i64 kind, .slice A key.length c, .int .i32 part, .int .i32 n] w fun e w' => e = .returned (.tuple #[.int .i32 (ansOf kind key part n), .bool true]) ∧ Kept [] w w' := by
  rcases (by omega : kind = 0 ∨ kind = 1 ∨ kind = 2 ∨ kind = 3 ∨ kind = 4) with rfl | rfl | rfl | rfl | rfl
  · exact partition_of partK0 key part n A c w hkey hk hn1 hn2
  · exact partition_of partK1 key part n A c w hkey hk hn1 hn2
  · exact partition_of partK2 key part n A c w hkey hk hn1 hn2
  · exact partition_of partK3 key part n A c w hkey hk hn1 hn2
  · exact partition_of partK4 key part n A c w hkey hk hn1 hn2
end Go.Proofs.YtghgffhcdnmpnaaGreat
/-
  groupAlive: true.
-/
namespace Go.Proofs.YtghgffhcdnmpnaaGreat
open Go.RowKit Go.Sort
def bM : ByteArray := ⟨#[109]⟩
def bT : ByteArray := ⟨#[116]⟩
theorem srt_one (x : ByteArray) : srt [x] = [x] := List.perm_singleton.1 (srt_perm [x])
def aliveMem (z : Nat) : MV := { id := bM, ver := 0, tops := [bT], tv := .slice (some ⟨z, 0, none⟩) 1 1, dv := .slice none 0 0, dn := 0, ov := .slice none 0 0, on := 0, gen := 0, rack := ⟨#[]⟩, hr := false }
def aliveSh : Sh := ⟨⟨#[]⟩, bT, [0, 1]⟩
theorem alive_canon (z : Nat) : canon (rangePlan (memList [aliveMem z]) (topList [aliveSh])) ([aliveMem z].map MV.id) ([aliveSh].map Sh.top) = [⟨bM, bT, [0, 1]⟩] := by
  have h1 : rangePlan (memList [aliveMem z]) (topList [aliveSh]) bM bT = [0, 1] := by
    have hw : wantIds (memList [aliveMem z]) bT = [bM] := by simp [wantIds, memList, aliveMem]
    have ht : tget (topList [aliveSh]) bT = [0, 1] := by simp [tget, topList, aliveSh]
    rw [rangePlan, hw, ht, srt_one]
    simp [rangeOf, rpart, rlo, rhi]
  show (srt [bM]).flatMap _ = _
  rw [srt_one]
  simp only [List.flatMap_cons, List.flatMap_nil, List.append_nil]
  have h2 : fullTops (rangePlan (memList [aliveMem z]) (topList [aliveSh]) bM) ([aliveSh].map Sh.top) = [bT] := by
    show List.filter _ [bT] = _
    simp [h1]
  rw [h2, srt_one]
  simp [mkSh, h1]
theorem one_at {w : World} {b : Nat} {cs : Array Value} {T : TypeId} (hb : w.heap[b]? = some (.cells cs T (0, 0))) (s n : Nat) (hs : cs.size = n * s) (hn : n ≤ 1000) {X : Nat → Prop} (hX : X b) : SlAt w X s (.slice (some ⟨b, 0, none⟩) n n) cs.toList := by
  refine ⟨_, _, _, rfl, ⟨by simpa using hs, by omega, fun _ => ⟨b, 0, rfl, fun i v hv => ?_⟩⟩, fun a ha _ => by cases ha; exact hX, Nat.le_refl _⟩
  rw [Nat.zero_add, cell_of_row _ _ _ _ _ _ hb]
  simpa using hv
theorem alive_grp {W : World} {z : Nat} (hz : z + 4 ≤ W.heap.size) (h0 : W.heap[z]? = some (.cells #[.string bT] 9 (0, 0))) (h1 : W.heap[z + 1]? = some (.cells #[.string bM, .int .i16 0, .slice (some ⟨z, 0, none⟩) 1 1, .slice none 0 0, .slice none 0 0, .int .i32 0, .string ⟨#[]⟩, .bool false] 46 (0, 0)))
    (h2 : W.heap[z + 2]? = some (.cells #[.int .i32 0, .int .i32 1] 21 (0, 0))) (h3 : W.heap[z + 3]? = some (.cells #[.string ⟨#[]⟩, .string bT, .slice (some ⟨z + 2, 0, none⟩) 2 2] 53 (0, 0))) :
    Grp W (fun x => z ≤ x ∧ x < z + 4) (.slice (some ⟨z + 1, 0, none⟩) 1 1) (.slice (some ⟨z + 3, 0, none⟩) 1 1) [aliveMem z] [aliveSh] where
  mems := by
    refine ⟨one_at h1 8 1 rfl (by omega) ⟨by omega, by omega⟩, ?_⟩
    intro m hm
    obtain rfl := List.mem_singleton.1 hm
    exact ⟨one_at h0 1 1 rfl (by omega) ⟨by omega, by omega⟩, ⟨_, _, rfl⟩, ⟨_, _, rfl⟩⟩
  tops := by
    refine ⟨[(aliveSh, .slice (some ⟨z + 2, 0, none⟩) 2 2)], rfl, one_at h3 3 1 rfl (by omega) ⟨by omega, by omega⟩, ?_⟩
    intro p hp
    obtain rfl := List.mem_singleton.1 hp
    exact one_at h2 1 2 rfl (by omega) ⟨by omega, by omega⟩
  lt := fun x hx => by omega
  ids := by simp
  six := by simp
  one := by simp
  once := by
    intro m hm
    obtain rfl := List.mem_singleton.1 hm
    simp [aliveMem]
  names := by simp
  twelve := by simp
  few := by
    intro s hs
    obtain rfl := List.mem_singleton.1 hs
    simp [aliveSh]
theorem part_alive (w : World) : Calls Tryz.prog 13 #[.int .i64 4, .slice none 0 0, .int .i32 3, .int .i32 5] w fun e w' => e = .returned (.tuple #[.int .i32 3, .bool true]) ∧ Kept [] w w' :=
  partition_any 4 (by omega) [] 3 5 none 0 w ⟨rfl, by simp, fun h => absurd h (by simp)⟩ ⟨by simp, by simp⟩ (by omega) (by omega)
theorem plan_alive (z : Nat) (W : World) (hz : z + 4 ≤ W.heap.size) (h0 : W.heap[z]? = some (.cells #[.string bT] 9 (0, 0))) (h1 : W.heap[z + 1]? = some (.cells #[.string bM, .int .i16 0, .slice (some ⟨z, 0, none⟩) 1 1, .slice none 0 0, .slice none 0 0, .int .i32 0, .string ⟨#[]⟩, .bool false] 46 (0, 0)))
    (h2 : W.heap[z + 2]? = some (.cells #[.int .i32 0, .int .i32 1] 21 (0, 0))) (h3 : W.heap[z + 3]? = some (.cells #[.string ⟨#[]⟩, .string bT, .slice (some ⟨z + 2, 0, none⟩) 2 2] 53 (0, 0))) :
    Calls Tryz.prog 20 #[.int .i64 0, .slice (some ⟨z + 1, 0, none⟩) 1 1, .slice (some ⟨z + 3, 0, none⟩) 1 1] W fun e w' => ∃ g cap A c, e = .returned (.tuple #[.slice (some ⟨g, 0, none⟩) 1 cap, .bool true]) ∧ w'.cell? ⟨g, 0, none⟩ = some (.string ⟨#[109]⟩) ∧ w'.cell? ⟨g, 2, none⟩ = some (.slice A 2 c) ∧ Kept [] W w' := by
  refine (groupPlan_range _ _ _ _ _ W (alive_grp hz h0 h1 h2 h3)).mono ?_
  rintro e w' ⟨v, L, rfl, hL, ho, hp, hk⟩
  rw [alive_canon] at hL
  match L, hL with
  | [(sh, pv)], hL =>
    have hsh : sh = ⟨bM, bT, [0, 1]⟩ := by simpa using hL
    subst hsh
    have hpv := hp _ (.head _)
    obtain ⟨A, c, hpe⟩ := own_form hpv
    have hpe : pv = .slice A 2 c := hpe
    subst hpe
    rcases ho.2 with ⟨_, h⟩ | ⟨g, cap, cur, rfl, h⟩
    · simp at h
    · have hcell := ho.cells (g := g) rfl
      exact ⟨g, cap, A, c, rfl, hcell 0 _ rfl, hcell 2 _ rfl, hk⟩
set_option maxRecDepth 100000 in
set_option maxHeartbeats 3200000 in
theorem groupAlive_any (w : World) : Calls Tryz.prog 12 #[] w fun e w' => e = .returned (.bool true) ∧ Kept [] w w' := by
  have HP := Lib.hid plan_alive
  have HQ := Lib.hid part_alive
  go_enter Tryz.func12, Tryz.ntmps12
  go_wp2_with fail
  have hK := allocs_kept [Obj.cells #[Value.string { data := #[116] }] 9, Obj.cells #[Value.string { data := #[109] }, Value.int IntKind.i16 0, Value.slice (some { block := w.heap.size, off := 0 }) 1 1, Value.slice none 0 0, Value.slice none 0 0, Value.int IntKind.i32 0, Value.string { data := #[] }, Value.bool false] 46, Obj.cells #[Value.int IntKind.i32 0, Value.int IntKind.i32 1] 21, Obj.cells #[Value.string { data := #[] }, Value.string { data := #[116] }, Value.slice (some { block := w.heap.size + 1 + 1, off := 0 }) 2 2] 53] w
  have hA := allocs_at w [Obj.cells #[Value.string { data := #[116] }] 9, Obj.cells #[Value.string { data := #[109] }, Value.int IntKind.i16 0, Value.slice (some { block := w.heap.size, off := 0 }) 1 1, Value.slice none 0 0, Value.slice none 0 0, Value.int IntKind.i32 0, Value.string { data := #[] }, Value.bool false] 46, Obj.cells #[Value.int IntKind.i32 0, Value.int IntKind.i32 1] 21, Obj.cells #[Value.string { data := #[] }, Value.string { data := #[116] }, Value.slice (some { block := w.heap.size + 1 + 1, off := 0 }) 2 2] 53]
  have hS := congrArg Array.size (allocs_heap [Obj.cells #[Value.string { data := #[116] }] 9, Obj.cells #[Value.string { data := #[109] }, Value.int IntKind.i16 0, Value.slice (some { block := w.heap.size, off := 0 }) 1 1, Value.slice none 0 0, Value.slice none 0 0, Value.int IntKind.i32 0, Value.string { data := #[] }, Value.bool false] 46, Obj.cells #[Value.int IntKind.i32 0, Value.int IntKind.i32 1] 21, Obj.cells #[Value.string { data := #[] }, Value.string { data := #[116] }, Value.slice (some { block := w.heap.size + 1 + 1, off := 0 }) 2 2] 53] w)
  simp only [allocs, List.foldl_cons, List.foldl_nil] at hK hA hS
  rw [Array.size_append] at hS
  simp only [List.size_toArray, List.length_cons, List.length_nil, Nat.zero_add, Nat.reduceAdd] at hS
  have hk4 := HP.out w.heap.size _ (by rw [hS]; exact Nat.le_refl _) (hA 0 _ rfl) (hA 1 _ rfl) (hA 2 _ rfl) (hA 3 _ rfl)
  refine hk4.mono ?_
  rintro e w1 ⟨g, cap, A, c, rfl, hc0, hc2, hk1⟩
  have HK1 := Lib.hid (hK.trans0 hk1)
  clear hk4 hK hA hS hk1
  have hf1 : True := trivial
  go_wp2_with (with_reducible refine (HQ.out _).mono ?_; rintro e w2 ⟨rfl, hk2⟩; have h20 := hk2.cell hc0 (by simp); have h22 := hk2.cell hc2 (by simp); have HK2 := Lib.hid hk2; clear hk2)
  go_ret
  exact ⟨rfl, HK1.out.trans0 HK2.out⟩
end Go.Proofs.YtghgffhcdnmpnaaGreat
