/-
  The sticky strategies' own block. No program's walk. Conditions: none beyond each lemma's own.
-/
import Derived.Test.YtghgffhcdnmpnaaGreatZO14
import Derived.Test.YtghgffhcdnmpnaaGreatZK1
namespace Go.Proofs.YtghgffhcdnmpnaaGreat
open Go.RowKit Go.Sort Go.MapKept
/-- A sticky strategy as it lies in memory: two maps and whether it is the cooperative one. -/
def OkS (coop : Bool) (T : TypeId) (bs : Nat) (W : World) : Prop :=
  (∃ cs, W.heap[bs]? = some (.cells cs T (0, 0))) ∧ (∀ o, o < 2 → ∃ m, W.cell? ⟨bs, o, none⟩ = some (.map m)) ∧ W.cell? ⟨bs, 2, none⟩ = some (.bool coop)
theorem OkS.kept0 {coop : Bool} {T : TypeId} {bs : Nat} {a b : World} (h : OkS coop T bs a) (k : Kept [] a b) : OkS coop T bs b := by
  obtain ⟨⟨cs, h1⟩, h2, h3⟩ := h
  refine ⟨⟨cs, k.heap h1 (by simp)⟩, fun o ho => ?_, k.cell h3 (by simp)⟩
  obtain ⟨m, hm⟩ := h2 o ho
  exact ⟨m, k.cell hm (by simp)⟩
theorem OkS.kc {coop : Bool} {T : TypeId} {bs c : Nat} {a b : World} (h : OkS coop T bs a) (k : KC c a b) : OkS coop T bs b := by
  obtain ⟨⟨cs, h1⟩, h2, h3⟩ := h
  by_cases hc : bs = c
  · subst hc
    obtain ⟨cs0, T0, cs1, k1, k2, _⟩ := k.was
    rw [h1] at k1
    injection k1 with k1
    injection k1 with k1 k3 k4
    refine ⟨⟨cs1, by rw [k3]; exact k2⟩, fun o ho => ?_, k.cell 2 _ h3 (by intro m e; cases e)⟩
    obtain ⟨m, hm⟩ := h2 o ho
    exact k.maps o m hm
  · refine ⟨⟨cs, k.k.heap h1 (by simpa using hc)⟩, fun o ho => ?_, k.k.cell h3 (by simpa using hc)⟩
    obtain ⟨m, hm⟩ := h2 o ho
    exact ⟨m, k.k.cell hm (by simpa using hc)⟩
set_option maxRecDepth 100000 in
theorem newSticky_any (w : World) : Calls Tryz.prog 63 #[] w fun e w' => e = .returned (.iface 134 (.pointer (some ⟨w.heap.size, 0, none⟩))) ∧ w' = w.alloc (.cells #[.map none, .map none, .bool false] 140) := by
  go_enter Tryz.func63, Tryz.ntmps63
  go_wp2
  go_ret
  exact ⟨rfl, rfl⟩
theorem oks_new (coop : Bool) (w : World) : OkS coop 140 w.heap.size (w.alloc (.cells #[.map none, .map none, .bool coop] 140)) := by
  refine ⟨⟨_, heap_alloc_new _ _⟩, fun o ho => ?_, by rw [cell_alloc_at]; rfl⟩
  match o, ho with
  | 0, _ => exact ⟨none, by rw [cell_alloc_at]; rfl⟩
  | 1, _ => exact ⟨none, by rw [cell_alloc_at]; rfl⟩
theorem strategy2 (w : World) : Calls Tryz.prog 42 #[.int .i64 2] w fun e w' => ∃ bs, e = .returned (.iface 134 (.pointer (some ⟨bs, 0, none⟩))) ∧ OkS false 140 bs w' ∧ Kept [] w w' ∧ w.heap.size ≤ bs := by
  have H := Lib.hid (newSticky_any w)
  go_enter Tryz.func42, Tryz.ntmps42
  go_wp2_with (with_reducible refine H.out.mono ?_; rintro e w1 ⟨rfl, rfl⟩)
  go_ret
  exact ⟨_, rfl, oks_new false w, (Kept.refl _ _).alloc _, Nat.le_refl _⟩
set_option maxRecDepth 100000 in
theorem newCoop_any (w : World) : Calls Tryz.prog 64 #[] w fun e w' => e = .returned (.iface 141 (.pointer (some ⟨w.heap.size, 0, none⟩))) ∧ w' = w.alloc (.cells #[.map none, .map none, .bool true, .int .i32 (-1)] 145) := by
  go_enter Tryz.func64, Tryz.ntmps64
  go_wp2
  refine bodyPost_end (results_none rfl _ _ _) rfl ?_
  go_wp2
  go_ret
  exact ⟨rfl, rfl⟩
theorem oks_newC (v : Value) (w : World) : OkS true 145 w.heap.size (w.alloc (.cells #[.map none, .map none, .bool true, v] 145)) := by
  refine ⟨⟨_, heap_alloc_new _ _⟩, fun o ho => ?_, by rw [cell_alloc_at]; rfl⟩
  match o, ho with
  | 0, _ => exact ⟨none, by rw [cell_alloc_at]; rfl⟩
  | 1, _ => exact ⟨none, by rw [cell_alloc_at]; rfl⟩
theorem strategy3 (w : World) : Calls Tryz.prog 42 #[.int .i64 3] w fun e w' => ∃ bs, e = .returned (.iface 141 (.pointer (some ⟨bs, 0, none⟩))) ∧ OkS true 145 bs w' ∧ Kept [] w w' ∧ w.heap.size ≤ bs := by
  have H := Lib.hid (newCoop_any w)
  go_enter Tryz.func42, Tryz.ntmps42
  go_wp2_with (with_reducible refine H.out.mono ?_; rintro e w1 ⟨rfl, rfl⟩)
  go_ret
  exact ⟨_, rfl, oks_newC _ w, (Kept.refl _ _).alloc _, Nat.le_refl _⟩
theorem find134 (rv : Value) (w : World) : (method 518 134 rv "Plan").run Tryz.prog w = .ok (193, rv) w := by kernel_rfl
theorem ahead134 (b : Nat) (w : World) : (nilAhead 518 134 (.pointer (some ⟨b, 0, none⟩)) "Plan").run Tryz.prog w = .ok (some false) w := by kernel_rfl
theorem find141 (b : Nat) (w : World) : (method 518 141 (.pointer (some ⟨b, 0, none⟩)) "Plan").run Tryz.prog w = .ok (193, .pointer (some ⟨b, 0, none⟩)) w := by kernel_rfl
theorem ahead141 (b : Nat) (w : World) : (nilAhead 518 141 (.pointer (some ⟨b, 0, none⟩)) "Plan").run Tryz.prog w = .ok (some false) w := by kernel_rfl
end Go.Proofs.YtghgffhcdnmpnaaGreat
/-
  The closure of GroupPlan, and GroupPlan, for the strategies that write their own block (PlanQ). Conditions: those of a group (Grp), and the strategy's own.
-/
namespace Go.Proofs.YtghgffhcdnmpnaaGreat
open Go.RowKit Go.Sort Go.MapKept
theorem KC.slatX {bs : Nat} {a b : World} (h : KC bs a b) {X : Nat → Prop} {s : Nat} {v : Value} {xs : List Value} (hs : SlAt a X s v xs) (hx : ∀ v ∈ xs, ∀ m, v ≠ .map m) : SlAt b X s v xs := by
  obtain ⟨A, n, c, rfl, h1, h2, h3⟩ := hs
  exact ⟨A, n, c, rfl, h.slis h1 hx, h2, h3⟩
theorem KC.tmX {bs : Nat} {a b : World} (h : KC bs a b) {X : Nat → Prop} {tb : Nat} {tm : List (ByteArray × List Int)} (hm : TmAt a X tb tm) : TmAt b X tb tm := by
  obtain ⟨h0, m, h1, h2, h3⟩ := hm
  refine ⟨h0, m, h.map h1, h2, fun e he => h.slatX (h3 e he) ?_⟩
  intro v hv m' e'
  obtain ⟨x, _, hx⟩ := List.mem_map.1 hv
  rw [← hx] at e'
  cases e'
theorem KC.own21 {bs : Nat} {a b : World} (h : KC bs a b) {base s n : Nat} {v : Value} {xs : List Value} (ho : a.ownsRow base 21 s v n xs) : b.ownsRow base 21 s v n xs := by
  refine h.k.own ho (fun g hg hm => ?_)
  obtain ⟨cs, T, cs', h1, _, h3⟩ := h.was
  have h4 : T ≠ 21 := by rcases h3 with rfl | rfl <;> decide
  have := own_cells_ne ho h1 (by rcases h3 with rfl | rfl <;> decide) g hg
  exact this hm
theorem KC.plan {bs : Nat} {a b : World} (h : KC bs a b) {S : List Nat} {pb : Nat} {F : ByteArray → ByteArray → List Int} (hp : PlanIs a S pb F) : PlanIs b S pb F := by
  obtain ⟨ks, I, M, hp⟩ := hp
  exact ⟨ks, I, M, hp.bS, h.map hp.outer, fun k hk => h.map (hp.inner k hk), hp.innerS, hp.apart, fun k hk t u hu => h.own21 (hp.rows k hk t u hu), hp.rowsS, hp.rapart, hp.nil⟩
/-- What stays while a strategy is made and asked: blocks below q, and what the facts tell. -/
structure RQ (Ok : Nat → World → Prop) (q : Nat) (a b : World) : Prop where
  k : ∃ T, (∀ x ∈ T, q ≤ x) ∧ Kept T a b
  ok : ∀ bs, Ok bs a → Ok bs b
  tm : ∀ X tb tm, TmAt a X tb tm → TmAt b X tb tm
  plan : ∀ S pb F, PlanIs a S pb F → PlanIs b S pb F
theorem RQ.trans {Ok : Nat → World → Prop} {q : Nat} {a b c : World} (h : RQ Ok q a b) (k : RQ Ok q b c) : RQ Ok q a c := by
  obtain ⟨S, hS, h1⟩ := h.k
  obtain ⟨T, hT, h2⟩ := k.k
  refine ⟨⟨S ++ T, fun x hx => (List.mem_append.1 hx).elim (hS x) (hT x), (h1.mono (fun x hx => List.mem_append_left _ hx)).trans h2 (fun x hx => .inl (List.mem_append_right _ hx))⟩, fun bs hb => k.ok bs (h.ok bs hb), fun X tb tm ht => k.tm X tb tm (h.tm X tb tm ht), fun S pb F hp => k.plan S pb F (h.plan S pb F hp)⟩
theorem RQ.kept0 {Ok : Nat → World → Prop} (hok : ∀ bs a b, Ok bs a → Kept [] a b → Ok bs b) {q : Nat} {a b : World} (k : Kept [] a b) : RQ Ok q a b :=
  ⟨⟨[], by simp, k⟩, fun bs hb => hok bs a b hb k, fun X tb tm ht => ht.kept0 k, fun S pb F hp => hp.kept k (fun _ _ => by simp)⟩
theorem RQ.kc {Ok : Nat → World → Prop} (hok : ∀ bs c a b, Ok bs a → KC c a b → Ok bs b) {q bs : Nat} {a b : World} (hq : q ≤ bs) (k : KC bs a b) : RQ Ok q a b :=
  ⟨⟨[bs], by simpa using hq, k.k⟩, fun bs' hb => hok bs' bs a b hb k, fun X tb tm ht => k.tmX ht, fun S pb F hp => k.plan hp⟩
/-- A strategy that writes its own block: how it is made, and what it gives. -/
structure PlanQ (kind : Nat) (T : TypeId) (M : FuncId) (Ok : Nat → World → Prop) (Good : List (ByteArray × List ByteArray) → List (ByteArray × List Int) → (ByteArray → ByteArray → List Int) → Prop) (Pre : List (ByteArray × List ByteArray) → List (ByteArray × List Int) → Prop) : Prop where
  made : ∀ W, Calls Tryz.prog 42 #[.int .i64 kind] W fun e w' => ∃ bs, e = .returned (.iface T (.pointer (some ⟨bs, 0, none⟩))) ∧ Ok bs w' ∧ Kept [] W w' ∧ W.heap.size ≤ bs
  ok : ∀ bs a b, Ok bs a → Kept [] a b → Ok bs b
  okc : ∀ bs c a b, Ok bs a → KC c a b → Ok bs b
  find : ∀ (b : Nat) (w : World), (method 518 T (.pointer (some ⟨b, 0, none⟩)) "Plan").run Tryz.prog w = .ok (M, .pointer (some ⟨b, 0, none⟩)) w
  ahead : ∀ (b : Nat) (w : World), (nilAhead 518 T (.pointer (some ⟨b, 0, none⟩)) "Plan").run Tryz.prog w = .ok (some false) w
  enters : ∀ (args : Array Value) (w : World), (callFunc M args).run Tryz.prog w = .ok (.enter M args) w
  call : ∀ W bs mb tb l tm, Ok bs W → MmAt W (fun x => x < W.heap.size) mb l → TmAt W (fun x => x < W.heap.size) tb tm → Told l tm → Pre l tm →
    Calls Tryz.prog M #[.pointer (some ⟨bs, 0, none⟩), .map (some mb), .map (some tb)] W fun e w' => ∃ pb S F, e = .returned (.tuple #[.map (some pb), .nilIface]) ∧ PlanIs w' S pb F ∧ (∀ x ∈ S, W.heap.size ≤ x) ∧ Good l tm F ∧ Few tm F ∧ KC bs W w'
def gqF (z q kind : Nat) (T : TypeId) (Ok : Nat → World → Prop) (tv : Value) (tm : List (ByteArray × List Int)) (Gd : (ByteArray → ByteArray → List Int) → Prop) (ix : Nat) (v : Value) (W : World) : Prop :=
  match ix with
  | 0 => v = .int .i64 kind
  | 1 => ∃ bs, v = .iface T (.pointer (some ⟨bs, 0, none⟩)) ∧ Ok bs W ∧ q ≤ bs
  | 2 => v = .map (some z)
  | 3 => v = tv
  | 4 => ∃ tb, v = .map (some tb) ∧ TmAt W (fun x => q ≤ x) tb tm
  | 5 => ∃ bs, v = .func (.method "Plan") #[.iface T (.pointer (some ⟨bs, 0, none⟩))] #[]
  | 7 => ∃ bs, v = .iface T (.pointer (some ⟨bs, 0, none⟩)) ∧ Ok bs W ∧ q ≤ bs
  | 8 => ∃ pb S F, v = .tuple #[.map (some pb), .nilIface] ∧ PlanIs W S pb F ∧ (∀ x ∈ S, q ≤ x) ∧ Gd F
  | 9 => ∃ pb S F, v = .tuple #[.map (some pb), .nilIface] ∧ PlanIs W S pb F ∧ (∀ x ∈ S, q ≤ x) ∧ Gd F
  | 10 => ∃ pb S F, v = .map (some pb) ∧ PlanIs W S pb F ∧ (∀ x ∈ S, q ≤ x) ∧ Gd F
  | 11 => v = .nilIface
  | 12 => ∃ pb S F, v = .map (some pb) ∧ PlanIs W S pb F ∧ (∀ x ∈ S, q ≤ x) ∧ Gd F
  | _ => True
theorem gqF_stable {z q kind T} {Ok : Nat → World → Prop} {tv tm Gd} : ∀ ix v w w', gqF z q kind T Ok tv tm Gd ix v w → RQ Ok q w w' → gqF z q kind T Ok tv tm Gd ix v w' := by
  intro ix v w w' h k
  unfold gqF at h ⊢
  split at h <;> (first | (exact h) | (obtain ⟨bs, h1, h2, h3⟩ := h; exact ⟨bs, h1, k.ok _ h2, h3⟩) | (obtain ⟨tb, h1, h2⟩ := h; exact ⟨tb, h1, k.tm _ _ _ h2⟩) | (obtain ⟨pb, S, F, h1, h2, h3, h4⟩ := h; exact ⟨pb, S, F, h1, k.plan _ _ _ h2, h3, h4⟩))
end Go.Proofs.YtghgffhcdnmpnaaGreat
