/-
  The closure of Partition, for any kind of partitioner (PartK). Conditions: a key of 100 bytes at most; 1 to 2147483647 partitions.
-/
import Derived.Test.YtghgffhcdnmpnaaGreatC19
import Derived.Test.YtghgffhcdnmpnaaGreatH4
namespace Go.Proofs.YtghgffhcdnmpnaaGreat
open Go.RowKit Go.Sort

/-- A kind of partitioner: how it is made, and what it answers. -/
structure PartK (kind : Nat) (T : TypeId) (M : FuncId) (ans : List Int → Int → Int → Int) (Ok : Value → Nat → World → Prop) : Prop where
  made : ∀ W, Calls Tryz.prog 31 #[.int .i64 kind] W fun e w' => ∃ rv, e = .returned (.iface T rv) ∧ Ok rv W.heap.size w' ∧ Kept [] W w'
  ok : ∀ rv B a b, Ok rv B a → Kept [] a b → Ok rv B b
  low : ∀ rv B B' w, Ok rv B w → B' ≤ B → Ok rv B' w
  find : ∀ (rv : Value) (w : World), (method 518 T rv "Partition").run Tryz.prog w = .ok (M, rv) w
  enters : ∀ (args : Array Value) (w : World), (callFunc M args).run Tryz.prog w = .ok (.enter M args) w
  call : ∀ W rv B bm A c key part n, Ok rv B W → W.heap[bm]? = some (.cells #[.string ⟨#[]⟩, .iface 56 (.slice A key.length c), .nilIface, .int .i32 part] 61 (0, 0)) → SlIs W 1 A key.length (bytesV key) → isKey key → key.length ≤ c → 1 ≤ n → n ≤ 2147483647 →
    Calls Tryz.prog M #[rv, .pointer (some ⟨bm, 0, none⟩), .int .i32 n] W fun e w' => e = .returned (.tuple #[.int .i32 (ans key part n), .nilIface]) ∧ Below B W w' ∧ ∀ rv', Ok rv' B W → Ok rv' B w'
def paF (part : Int) (KV : Value) (m q : Nat) (bs : List Value) (ix : Nat) (v : Value) (W : World) : Prop :=
  match ix with
  | 0 => v = .int .i32 part
  | 1 => v = KV
  | 2 => ∃ A1 c1, v = .slice A1 m c1 ∧ W.ownsRow q 5 1 v m bs
  | 3 => ∃ A1 c1, v = .iface 56 (.slice A1 m c1) ∧ W.ownsRow q 5 1 (.slice A1 m c1) m bs
  | 4 => ∃ A1 c1, v = .agg #[.string ⟨#[]⟩, .iface 56 (.slice A1 m c1), .nilIface, .int .i32 part] ∧ W.ownsRow q 5 1 (.slice A1 m c1) m bs
  | 5 => ∃ A1 c1 bm, v = .pointer (some ⟨bm, 0, none⟩) ∧ W.heap[bm]? = some (.cells #[.string ⟨#[]⟩, .iface 56 (.slice A1 m c1), .nilIface, .int .i32 part] 61 (0, 0)) ∧ W.ownsRow q 5 1 (.slice A1 m c1) m bs
  | _ => True
theorem paF_stable {part KV m q bs} : ∀ ix v w w', paF part KV m q bs ix v w → Kept [] w w' → paF part KV m q bs ix v w' := by
  intro ix v w w' h k
  unfold paF at h ⊢
  split at h <;> (first | (exact h) | (obtain ⟨A1, c1, bm, h1, h2, h3⟩ := h; exact ⟨A1, c1, bm, h1, k.heap h2 (by simp), own_kept0 h3 k⟩) | (obtain ⟨A1, c1, h1, h2⟩ := h; exact ⟨A1, c1, h1, own_kept0 h2 k⟩))
def pbF (kind : Nat) (T : TypeId) (bm : Nat) (n r : Int) (B : Nat) (Ok : Value → Nat → World → Prop) (ix : Nat) (v : Value) (W : World) : Prop :=
  match ix with
  | 0 => v = .int .i64 kind
  | 1 => ∃ rv, v = .iface T rv ∧ Ok rv B W
  | 2 => v = .pointer (some ⟨bm, 0, none⟩)
  | 3 => v = .int .i32 n
  | 4 => v = .tuple #[.int .i32 r, .nilIface]
  | 5 => v = .tuple #[.int .i32 r, .nilIface]
  | 6 => v = .int .i32 r
  | 7 => v = .nilIface
  | 8 => v = .int .i32 r
  | _ => True
def pbE (Ok : Value → Nat → World → Prop) (B i : Nat) (a b : World) : Prop := match i with | 4 => Below B a b ∧ ∀ rv, Ok rv B a → Ok rv B b | _ => Kept [] a b
theorem pbE_below {Ok : Value → Nat → World → Prop} {B i : Nat} {a b : World} (h : pbE Ok B i a b) (hB : B ≤ a.heap.size) : Below B a b := by
  unfold pbE at h
  split at h
  · exact h.1
  · exact h.belowB hB (by simp)
theorem pbF_stable {kind T bm n r B} {Ok : Value → Nat → World → Prop} (hok : ∀ rv B a b, Ok rv B a → Kept [] a b → Ok rv B b) : ∀ i j v w w', i ≠ j → pbF kind T bm n r B Ok j v w → pbE Ok B i w w' → pbF kind T bm n r B Ok j v w' := by
  intro i j v w w' _ h hk
  unfold pbF at h ⊢
  split at h <;> (first | (exact h) | skip)
  obtain ⟨rv, h1, h2⟩ := h
  unfold pbE at hk
  split at hk
  · exact ⟨rv, h1, hk.2 rv h2⟩
  · exact ⟨rv, h1, hok rv B _ _ h2 hk⟩
def pcF (bo : Nat) (r : Int) (ix : Nat) (v : Value) (W : World) : Prop :=
  match ix with
  | 0 => v = .int .i32 r
  | 1 => v = .nilIface
  | 2 => v = .bool true
  | 3 => W.heap[bo]? = some (.cells #[.int .i32 r] 21 (0, 0))
  | _ => True
def pcE (bo i : Nat) (a b : World) : Prop := Kept (match i with | 3 => [bo] | _ => []) a b
theorem pcE_R {bo i : Nat} {a b c : World} (h : Kept [bo] a b) (k : pcE bo i b c) : Kept [bo] a c := by
  unfold pcE at k
  split at k
  · exact h.trans k (fun x hx => .inl hx)
  · exact h.trans0 k
theorem pcF_stable {bo r} : ∀ i j v w w', i ≠ j → pcF bo r j v w → pcE bo i w w' → pcF bo r j v w' := by
  intro i j v w w' hij h hk
  unfold pcF at h ⊢
  split at h <;> (first | (exact h) | skip)
  unfold pcE at hk
  split at hk
  · exact absurd rfl hij
  · exact hk.heap h (by simp)
def pcPre (bo i : Nat) (w : World) : Prop := i = 3 → w.heap[bo]? = some (.cells #[.int .i32 0] 21 (0, 0))
theorem pcPre_stable {bo : Nat} : ∀ i j w w', i ≠ j → pcPre bo j w → pcE bo i w w' → pcPre bo j w' := by
  intro i j w w' hij h hk hj
  subst hj
  unfold pcE at hk
  split at hk
  · exact absurd rfl hij
  · exact hk.heap (h rfl) (by simp)

set_option maxRecDepth 100000 in
set_option maxHeartbeats 3200000 in
/-- The closure of Partition. -/
theorem partClosure {kind : Nat} {T : TypeId} {M : FuncId} {ans : List Int → Int → Int → Int} {Ok : Value → Nat → World → Prop} (K : PartK kind T M ans Ok) (key : List Int) (part n : Int) (A : Option Addr) (c : Nat) (bpp bk bi bn bo bok : Nat) (w : World)
    (hcp : w.cell? ⟨bpp, 0, none⟩ = some (.int .i32 part)) (hck : w.cell? ⟨bk, 0, none⟩ = some (.slice A key.length c)) (hci : w.cell? ⟨bi, 0, none⟩ = some (.int .i64 kind)) (hcn : w.cell? ⟨bn, 0, none⟩ = some (.int .i32 n)) (ho : w.heap[bo]? = some (.cells #[.int .i32 0] 21 (0, 0))) (hok : w.heap[bok]? = some (.cells #[.bool false] 4 (0, 0))) (hne : bo ≠ bok)
    (hkey : SlIs w 1 A key.length (bytesV key)) (hk : isKey key) (hn1 : 1 ≤ n) (hn2 : n ≤ 2147483647) :
    Calls Tryz.prog 29 #[.pointer (some ⟨bpp, 0, none⟩), .pointer (some ⟨bk, 0, none⟩), .pointer (some ⟨bi, 0, none⟩), .pointer (some ⟨bn, 0, none⟩), .pointer (some ⟨bo, 0, none⟩), .pointer (some ⟨bok, 0, none⟩)] w fun e w' =>
      e = .returned (.tuple #[]) ∧ w'.heap[bo]? = some (.cells #[.int .i32 (ans key part n)] 21 (0, 0)) ∧ w'.heap[bok]? = some (.cells #[.bool true] 4 (0, 0)) ∧ Kept [bo, bok] w w' := by
  have HCP := Lib.hid hcp
  have HCK := Lib.hid hck
  have HCI := Lib.hid hci
  have HCN := Lib.hid hcn
  have HO := Lib.hid ho
  have HOK := Lib.hid hok
  have HKEY := Lib.hid hkey
  have HISK := Lib.hid hk
  have hl := hk.1
  clear hcp hck hci hcn ho hok hkey hk
  go_enter Tryz.func29, Tryz.ntmps29
  go_wp2
  refine wp_region_facts' 6 (Kept []) (paF part (.slice A key.length c) key.length w.heap.size (bytesV key)) mixed (by kernel_rfl) ((Kept.refl _ _).drew) (fun _ _ _ h k => h.trans0 k) paF_stable ?_ ?_
  · refine ⟨?_, ?_, ?_, ?_, ?_, ?_, trivial⟩
    all_goals go_light
    all_goals intro a W hR hs hd
    all_goals have p0 : a.tmps[0]? = some (.pointer (some ⟨bpp, 0, none⟩)) := hs.2.2 0 (by decide)
    all_goals have p1 : a.tmps[1]? = some (.pointer (some ⟨bk, 0, none⟩)) := hs.2.2 1 (by decide)
    all_goals have hRr : Kept [] W W := Kept.refl [] W
    all_goals have hcp : W.cell? ⟨bpp, 0, none⟩ = some (.int .i32 part) := hR.cell HCP.out (by simp)
    all_goals have hck : W.cell? ⟨bk, 0, none⟩ = some (.slice A key.length c) := hR.cell HCK.out (by simp)
    · refine ow_value (w' := W) (v := .int .i32 part) ?_ (.mk hRr rfl rfl)
      simp [go_sem, p0, hcp]
    · refine ow_value (w' := W) (v := .slice A key.length c) ?_ (.mk hRr rfl rfl)
      simp [go_sem, p1, hck]
    · have q1 : _ = _ := hd.1 rfl
      refine ow_call (w' := W) (f := 30) (args := #[.slice A key.length c]) (by simp [go_sem, q1]) (copied_any A key.length c (bytesV key) W (HKEY.out.kept0 hR) (bytesV_one _) (by omega)) ?_
      rintro e w'' ⟨v, rfl, h1, h2⟩
      obtain ⟨A1, c1, rfl⟩ := own_form h1
      exact ⟨_, rfl, .mk h2 ⟨A1, c1, rfl, own_mono h1 hR.size⟩ rfl⟩
    · have q2 := hd.1 rfl
      obtain ⟨A1, c1, q2, ho⟩ := q2
      change _ = _ at q2
      rw [q2] at ho
      refine ow_value (w' := W) (v := .iface 56 (.slice A1 key.length c1)) ?_ (.mk hRr ⟨A1, c1, rfl, ho⟩ rfl)
      simp [go_sem, q2]
    · have q0 : _ = _ := hd.1 rfl
      have q3 := hd.2.1 rfl
      obtain ⟨A1, c1, q3, ho⟩ := q3
      change _ = _ at q3
      refine ow_value (w' := W) (v := .agg #[.string ⟨#[]⟩, .iface 56 (.slice A1 key.length c1), .nilIface, .int .i32 part]) ?_ (.mk hRr ⟨A1, c1, rfl, ho⟩ rfl)
      simp [go_sem, q0, q3]
    · have q4 := hd.1 rfl
      obtain ⟨A1, c1, q4, ho⟩ := q4
      change _ = _ at q4
      refine ow_value (w' := W.alloc (.cells #[.string ⟨#[]⟩, .iface 56 (.slice A1 key.length c1), .nilIface, .int .i32 part] 61)) (v := .pointer (some ⟨W.heap.size, 0, none⟩)) ?_ (.mk ((Kept.refl _ _).alloc _) ⟨A1, c1, W.heap.size, rfl, heap_alloc_new _ _, own_kept0 ho ((Kept.refl _ _).alloc _)⟩ rfl)
      simp [go_sem, q4]
  · intro f W hR hf
    obtain ⟨f0, f1, f2, f3, f4, f5, -⟩ := hf
    change f 9 = _ at f0
    change f 10 = _ at f1
    change ∃ A1 c1, (f 11) = .slice A1 key.length c1 ∧ W.ownsRow w.heap.size 5 1 (f 11) key.length (bytesV key) at f2
    obtain ⟨x2, g2⟩ : ∃ x, f 11 = x := ⟨_, rfl⟩
    rw [g2] at f2
    change ∃ A1 c1, (f 12) = .iface 56 (.slice A1 key.length c1) ∧ W.ownsRow w.heap.size 5 1 (.slice A1 key.length c1) key.length (bytesV key) at f3
    obtain ⟨x3, g3⟩ : ∃ x, f 12 = x := ⟨_, rfl⟩
    rw [g3] at f3
    change ∃ A1 c1, (f 13) = .agg #[.string ⟨#[]⟩, .iface 56 (.slice A1 key.length c1), .nilIface, .int .i32 part] ∧ W.ownsRow w.heap.size 5 1 (.slice A1 key.length c1) key.length (bytesV key) at f4
    obtain ⟨x4, g4⟩ : ∃ x, f 13 = x := ⟨_, rfl⟩
    rw [g4] at f4
    change ∃ A1 c1 bm, (f 14) = .pointer (some ⟨bm, 0, none⟩) ∧ W.heap[bm]? = some (.cells #[.string ⟨#[]⟩, .iface 56 (.slice A1 key.length c1), .nilIface, .int .i32 part] 61 (0, 0)) ∧ W.ownsRow w.heap.size 5 1 (.slice A1 key.length c1) key.length (bytesV key) at f5
    obtain ⟨x5, g5⟩ : ∃ x, f 14 = x := ⟨_, rfl⟩
    rw [g5] at f5
    simp only [headDsts, List.take_succ_cons, List.take_zero, List.filterMap_cons, List.filterMap_nil, setAll, f0, f1, g2, g3, g4, g5, List.setIfInBounds_toArray, List.set_cons_succ, List.set_cons_zero, List.drop_succ_cons, List.drop_zero]
    clear f0 f1 g2 g3 g4 g5 f
    obtain ⟨A1, c1, bm, rfl, hbm, hom⟩ := f5
    have HBM := Lib.hid hbm
    have HOM := Lib.hid hom
    have HR := Lib.hid hR
    clear hbm hom hR
    go_wp2
    obtain ⟨W0, hW0⟩ : ∃ W0, W0 = W := ⟨_, rfl⟩
    rw [← hW0] at HBM HOM HR ⊢
    clear hW0
    obtain ⟨A1', c1', he1, hsl1, hlt1⟩ := own_sl HOM.out
    cases he1
    have HSL := Lib.hid hsl1
    have HCAP := Lib.hid (own_cap HOM.out)
    have hbmlt : bm < W0.heap.size := (Array.getElem?_eq_some_iff.1 HBM.out).1
    have hold : ∀ W, Below W0.heap.size W0 W → ∀ (p : Addr) (v : Value), w.cell? p = some v → W.cell? p = some v := fun W hB p v hp => by
      have h1 := HR.out.cell hp (by simp)
      rw [← h1]
      exact World.cell?_of_block (hB.block p.block (World.block_lt_of_cell? _ _ h1))
    have hmsg : ∀ W, Below W0.heap.size W0 W → W.heap[bm]? = some (.cells #[.string ⟨#[]⟩, .iface 56 (.slice A1 key.length c1), .nilIface, .int .i32 part] 61 (0, 0)) ∧ SlIs W 1 A1 key.length (bytesV key) := fun W hB => by
      refine ⟨(hB.block bm hbmlt).trans HBM.out, ⟨HSL.out.1, HSL.out.2.1, fun hn => ?_⟩⟩
      obtain ⟨b, off, hA, hcc⟩ := HSL.out.2.2 hn
      exact ⟨b, off, hA, fun i v hv => by rw [← hcc i v hv]; exact World.cell?_of_block (hB.block b (World.block_lt_of_cell? _ _ (hcc i v hv)))⟩
    refine wp_region_effs' 9 (fun a b => Below W0.heap.size a b ∧ W0.heap.size ≤ b.heap.size) (pbE Ok W0.heap.size) (fun _ _ => True) (pbF kind T bm n (ans key part n) W0.heap.size Ok) mixed (by kernel_rfl) ⟨Kept.below ((Kept.refl [] _).drew), Nat.le_refl _⟩ (fun i a b c h k => ⟨h.1.trans (pbE_below k h.2), Nat.le_trans h.2 (pbE_below k h.2).size⟩) (fun _ _ => trivial) (pbF_stable K.ok) (fun _ _ _ _ _ _ _ => trivial) ?_ ?_
    · refine ⟨?_, ?_, ?_, ?_, ?_, ?_, ?_, ?_, ?_, trivial⟩
      all_goals go_light
      all_goals intro a W hR hpre hs hd
      all_goals have p2 : a.tmps[2]? = some (.pointer (some ⟨bi, 0, none⟩)) := hs.2.2 2 (by decide)
      all_goals have p6 : a.tmps[6]? = some (.pointer (some ⟨bm, 0, none⟩)) := hs.2.2 6 (by decide)
      all_goals have p3 : a.tmps[3]? = some (.pointer (some ⟨bn, 0, none⟩)) := hs.2.2 3 (by decide)
      all_goals replace hR := hR.1
      all_goals have hRr : Kept [] W W := Kept.refl [] W
      all_goals have hci : W.cell? ⟨bi, 0, none⟩ = some (.int .i64 kind) := hold W hR _ _ HCI.out
      all_goals have hcn : W.cell? ⟨bn, 0, none⟩ = some (.int .i32 n) := hold W hR _ _ HCN.out
      · refine ow_value (w' := W) (v := .int .i64 kind) ?_ (.mk hRr rfl rfl)
        simp [go_sem, p2, hci]
      · have q0 : _ = _ := hd.1 rfl
        refine ow_call (w' := W) (f := 31) (args := #[.int .i64 kind]) (by simp [go_sem, q0]) (K.made W) ?_
        rintro e w'' ⟨rv, rfl, h1, h2⟩
        exact ⟨_, rfl, .mk h2 ⟨rv, rfl, K.low rv _ _ _ h1 hR.size⟩ rfl⟩
      · refine ow_value (w' := W) (v := .pointer (some ⟨bm, 0, none⟩)) ?_ (.mk hRr rfl rfl)
        simp [go_sem, p6]
      · refine ow_value (w' := W) (v := .int .i32 n) ?_ (.mk hRr rfl rfl)
        simp [go_sem, p3, hcn]
      · have q1 := hd.1 rfl
        have q2 : _ = _ := hd.2.1 rfl
        have q3 : _ = _ := hd.2.2.1 rfl
        obtain ⟨rv, q1, hok1⟩ := q1
        change _ = _ at q1
        have hfi := K.find
        have hen := K.enters
        obtain ⟨hbmW, hslW⟩ := hmsg W hR
        refine ow_call (w' := W) (f := M) (args := #[rv, .pointer (some ⟨bm, 0, none⟩), .int .i32 n]) (by simp [go_sem, q1, q2, q3, hfi, hen]) (K.call W rv W0.heap.size bm A1 c1 key part n hok1 hbmW hslW HISK.out HCAP.out hn1 hn2) ?_
        rintro e w'' ⟨rfl, h1, h2⟩
        exact ⟨_, rfl, .mk ⟨h1, h2⟩ rfl rfl⟩
      · have q4 : _ = _ := hd.1 rfl
        refine ow_value (w' := W) (v := .tuple #[.int .i32 (ans key part n), .nilIface]) ?_ (.mk hRr rfl rfl)
        simp [go_sem, q4]
      · have q5 : _ = _ := hd.1 rfl
        refine ow_value (w' := W) (v := .int .i32 (ans key part n)) ?_ (.mk hRr rfl rfl)
        simp [go_sem, q5]
      · have q5 : _ = _ := hd.1 rfl
        refine ow_value (w' := W) (v := .nilIface) ?_ (.mk hRr rfl rfl)
        simp [go_sem, q5]
      · have q6 : _ = _ := hd.1 rfl
        refine ow_value (w' := W) (v := .int .i32 (ans key part n)) ?_ (.mk hRr rfl rfl)
        simp [go_sem, q6]
    · intro f W hR hf
      obtain ⟨f0, f1, f2, f3, f4, f5, f6, f7, f8, -⟩ := hf
      change f 16 = _ at f0
      change ∃ rv, (f 17) = .iface T rv ∧ Ok rv W0.heap.size W at f1
      obtain ⟨x1, g1⟩ : ∃ x, f 17 = x := ⟨_, rfl⟩
      rw [g1] at f1
      change f 18 = _ at f2
      change f 19 = _ at f3
      change f 20 = _ at f4
      change f 15 = _ at f5
      change f 21 = _ at f6
      change f 22 = _ at f7
      change f 7 = _ at f8
      simp only [headDsts, List.take_succ_cons, List.take_zero, List.filterMap_cons, List.filterMap_nil, setAll, f0, g1, f2, f3, f4, f5, f6, f7, f8, List.setIfInBounds_toArray, List.set_cons_succ, List.set_cons_zero, List.drop_succ_cons, List.drop_zero]
      clear f0 g1 f2 f3 f4 f5 f6 f7 f8 f
      replace hR := hR.1
      have hbo0 : W0.heap[bo]? = some (.cells #[.int .i32 0] 21 (0, 0)) := HR.out.heap HO.out (by simp)
      have hbk0 : W0.heap[bok]? = some (.cells #[.bool false] 4 (0, 0)) := HR.out.heap HOK.out (by simp)
      have hbo1 := (hR.block bo (Array.getElem?_eq_some_iff.1 hbo0).1).trans hbo0
      have hbk1 := (hR.block bok (Array.getElem?_eq_some_iff.1 hbk0).1).trans hbk0
      have hKw : Kept [] w W := HR.out.trans0 ⟨hR.os, hR.tape, hR.output, hR.size, fun k hk _ => hR.block k hk⟩
      have HBO := Lib.hid hbo1
      have HBK := Lib.hid hbk1
      have HKW := Lib.hid hKw
      clear hbo0 hbk0 hbo1 hbk1 hKw hR
      go_wp2
      refine wp_region_effs' 4 (Kept [bo]) (pcE bo) (pcPre bo) (pcF bo (ans key part n)) mixed (by kernel_rfl) ((Kept.refl _ _).drew) (fun i _ _ _ h k => pcE_R h k) (fun _ _ _ => HBO.out) pcF_stable pcPre_stable ?_ ?_
      · refine ⟨?_, ?_, ?_, ?_, trivial⟩
        all_goals go_light
        all_goals intro a W hR hpre hs hd
        all_goals have p7 : a.tmps[7]? = some (.int .i32 (ans key part n)) := hs.2.2 7 (by decide)
        all_goals have p8 : a.tmps[8]? = some (.nilIface) := hs.2.2 8 (by decide)
        all_goals have p4 : a.tmps[4]? = some (.pointer (some ⟨bo, 0, none⟩)) := hs.2.2 4 (by decide)
        all_goals have hRr : Kept [] W W := Kept.refl [] W
        · refine ow_value (w' := W) (v := .int .i32 (ans key part n)) ?_ (.mk hRr rfl rfl)
          simp [go_sem, p7]
        · refine ow_value (w' := W) (v := .nilIface) ?_ (.mk hRr rfl rfl)
          simp [go_sem, p8]
        · have q1 : _ = _ := hd.1 rfl
          refine ow_value (w' := W) (v := .bool true) ?_ (.mk hRr rfl rfl)
          simp [go_sem, q1]
        · have q0 : _ = _ := hd.1 rfl
          have hb := hpre rfl
          have hc : W.cell? ⟨bo, 0, none⟩ = some (.int .i32 0) := by simp [World.cell?, hb]
          have hf : W.frozen? ⟨bo, 0, none⟩ = false := by simp [World.frozen?, hb]
          refine ow_skip (w' := W.setCell ⟨bo, 0, none⟩ (.int .i32 (ans key part n))) (by simp [go_sem, p4, q0, hc, hf]) ?_
          have h5 := heap_setCell_same W bo 0 _ 21 (.int .i32 (ans key part n)) hb
          exact ⟨undef, rfl, (Kept.refl _ _).setCell (.inl (by simp)) _, h5, fun _ => h5⟩
      · intro f W_2 hR hf
        obtain ⟨f0, f1, f2, f3, -⟩ := hf
        change f 23 = _ at f0
        change f 24 = _ at f1
        change f 25 = _ at f2
        change W_2.heap[bo]? = some (.cells #[.int .i32 (ans key part n)] 21 (0, 0)) at f3
        simp only [headDsts, List.take_succ_cons, List.take_zero, List.filterMap_cons, List.filterMap_nil, setAll, f0, f1, f2, List.setIfInBounds_toArray, List.set_cons_succ, List.set_cons_zero, List.drop_succ_cons, List.drop_zero]
        clear f0 f1 f2 f
        have hbk2 := hR.heap HBK.out (fun hm => hne (List.mem_singleton.1 hm).symm)
        have hcb : W_2.cell? ⟨bok, 0, none⟩ = some (.bool false) := by simp [World.cell?, hbk2]
        have hfb : W_2.frozen? ⟨bok, 0, none⟩ = false := by simp [World.frozen?, hbk2]
        have h6 := heap_setCell_same W_2 bok 0 _ 4 (.bool true) hbk2
        have h7 : (W_2.setCell ⟨bok, 0, none⟩ (.bool true)).heap[bo]? = some (.cells #[.int .i32 (ans key part n)] 21 (0, 0)) := by
          rw [heap_setCell_other _ _ _ _ (by simpa using hne)]
          exact f3
        have hKf : Kept [bo, bok] w (W_2.setCell ⟨bok, 0, none⟩ (.bool true)) := ((HKW.out.mono (by simp)).trans hR (fun x hx => .inl (by rw [List.mem_singleton.1 hx]; simp))).setCell (.inl (by simp)) _
        have H6 := Lib.hid h6
        have H7 := Lib.hid h7
        have HKF := Lib.hid hKf
        clear h6 h7 hKf hbk2 f3 hR
        go_wp2
        refine bodyPost_end (results_none rfl _ _ _) rfl ?_
        exact ⟨rfl, H7.out, H6.out, HKF.out⟩

end Go.Proofs.YtghgffhcdnmpnaaGreat
