/-
  FnPlanOdd: by each strategy each partition of a group that begins goes to one member, who has subscribed to its topic, whatever the numbers of the partitions are. No condition: for every input.
-/
import Derived.Test.YtghgffhcdnmpnaaGreatZV5
import Derived.Test.YtghgffhcdnmpnaaGreatZV6a
import Derived.Test.YtghgffhcdnmpnaaGreatZV3
namespace Go.Proofs.YtghgffhcdnmpnaaGreat
open Go.ChangeShapes Go.WideShapes Go.ChangeAt Go.RowKit Go.Sort
theorem u8_in9 {k : Int} (h : (Lit.int .u8 k).wf = true) : 0 ≤ k ∧ k ≤ 255 := by
  simp [Lit.wf, IntKind.min, IntKind.max, IntKind.signed, IntKind.bits] at h
  omega
/-- What a law's walk owes, where the table of powers lies in memory. -/
def LawWalkT (f : FuncId) (fn : Func) : Prop := ∀ (H : Type) (enc : TypeId × Value → H) (W : World) (base : Nat) (args : Array Value) (ds : List (DataW H)) (ps : List MemPlace),
  (∀ (j : Nat) t v, fn.params[j]? = some t → args[j]? = some v → Value.okWide Tryz.prog W .any base t v) →
  DataW.TrodAll enc Tryz.prog W 0 (fun _ => true) true fn.params.toList args.toList ds ps → Tab20 W →
  Calls Tryz.prog f args W fun e W' => e = .returned (.bool true) ∧ Below W.heap.size W W'
set_option maxRecDepth 100000 in
/-- A law's lifted form. -/
theorem law_liftedT {f : FuncId} {fn : Func} {s : ChangeSpec} {conds : List PathCond} {H : Type} {enc : TypeId × Value → H} (hwalk : LawWalkT f fn) (hfn : Tryz.prog.funcs[f]? = some fn) (noInit : Tryz.checked.prog.inits.idxOf? f = none) (os : Os) (started : os.Started)
    (hrd : ∀ t ∈ fn.params.toList, Tryz.prog.readableRec t = true ∧ t < Tryz.prog.types.size) (hres : fn.resultTypes = #[4]) (hvars : s.vars = [])
    (hspec : ∀ ds : List (DataW H), ds.length = fn.params.size → s.fn H (ds ++ []) = { results := [.lit (.bool true)], args := ds })
    (witness : ∃ (w : World) (tape : Tape) (i : Input), w.os = os ∧ (w.forCall tape i).Shaped Tryz.prog ∧ i.vars = [] ∧ Input.okWide Tryz.checked.prog (w.forCall tape i) .any w.heap.size f i ∧
      s.pre6 enc Tryz.prog fn conds false (w.forCall tape i).memory i.args ∧ ({} : Assume).holds Tryz.prog (lone (Frame.enter Tryz.prog f i.args .normal) [] (w.forCall tape i))) :
    ReturnsInHanded {} Tryz.checked os f .any (s.pre6 enc Tryz.prog fn conds false) (s.post enc Tryz.prog fn false true false false) := by
  refine returnsInHanded_of_change_shaped (C := Tryz.checked) own0 started noInit hfn witness ?_
  intro W base args ds gs before hval hW _ _ hsh _
  have hW' := hW
  obtain ⟨p, q, hA, hV, rfl, _, _⟩ := hW
  rw [hvars] at hV
  obtain ⟨rfl, rfl⟩ := trodVars_none hV
  have hlen : ds.length = fn.params.size := by simpa using (trodAll_length hA).2
  refine (hwalk H enc W base args ds p hval hA (tab20_of_shape hsh)).mono fun e W' ⟨he, hb⟩ => ?_
  subst he
  have hs := hspec ds hlen
  refine ⟨_, rfl, post_of_below (pa := p) (pv := []) hW' (fun _ _ _ => ?_) (fun sp hsp => ?_) (fun sp _ => ?_) rfl hb ?_⟩
  · rw [hs, hres]
    exact trodAll_mk1 (shut_bool Tryz.underlying4 _)
  · rw [hs]
    simp only [List.append_nil] at hsp
    exact trodAll_stays laid0 hrd hA (fun x hx => hb.same (hW'.lt x (by simpa using hx))) hsp
  · rw [hs, hvars]
    rfl
  · exact ok_one hres rfl (okWide_bool_mk Tryz.underlying4 _)
set_option maxRecDepth 100000 in
theorem fnPlanOdd_law : LawWalkT 6 Tryz.f6 := by
  intro H enc W base args ds ps hval hA hTab
  rw [Tryz.params6] at hA hval
  obtain ⟨v0, v1, v2, d0, d1, d2, p0, p1, p2, rfl, rfl, rfl, h0, h1, h2⟩ := trodAll_three hA
  obtain ⟨k, rfl, rfl, rfl, w0⟩ := open_int Tryz.underlying5 (hval 0 5 v0 rfl rfl) h0
  obtain ⟨A, ms, c, rfl, hm⟩ := arg_members (hval 1 29 v1 rfl rfl) h1
  obtain ⟨B, l, d, rfl, ht⟩ := arg_shares (hval 2 30 v2 rfl rfl) h2
  obtain ⟨t0, t1⟩ := u8_in9 w0
  exact (fnPlanOdd_walk k t0 t1 A B c d ms l W hm ht hTab).mono fun e W' ⟨h1, h2⟩ => ⟨h1, h2.below⟩
set_option maxRecDepth 100000 in
theorem fnPlanOdd_lifted (os : Os) (started : os.Started) (H : Type) (enc : TypeId × Value → H) :
    ReturnsInHanded {} Tryz.checked os 6 .any (Rows.fnPlanOddSpec.pre6 enc Tryz.prog Tryz.f6 Rows.fnPlanOddRow.domain false) (Rows.fnPlanOddSpec.post enc Tryz.prog Tryz.f6 false true false false) :=
  law_liftedT fnPlanOdd_law Tryz.func6 (by kernel_rfl) os started (by rw [Tryz.params6]; decide +kernel) (by kernel_rfl) rfl
    (fun ds hd => by
      have hd : ds.length = 3 := hd
      match ds, hd with
      | [d0, d1, d2], _ => rfl)
    (ChangeSpec.witness6 (enc := enc) (C := Tryz.checked) false ⟨#[], #[.int .u8 0, .slice none 0 0, .slice none 0 0], []⟩ 8 (by kernel_rfl) (by kernel_rfl) (by kernel_rfl) (by kernel_rfl))
/-- For every input FnPlanOdd returns true; its arguments read as they did. -/
theorem fnPlanOdd_holds : Rows.FnPlanOddSaid :=
  OpenClaim.holds_of_wide 6 Tryz.f6 rfl rfl rfl rfl rfl rfl rfl ⟨rfl, rfl, rfl, rfl, rfl⟩ rfl rfl rfl rfl rfl (by kernel_rfl) Tryz.func6 fnPlanOdd_closed
    (of_decide_eq_true (by kernel_rfl)) (by unfold Func.isWrapper; first | (rw [if_pos (by decide +kernel)]; kernel_rfl) | (rw [if_neg (by decide +kernel)]; exact ⟨rfl, rfl⟩))
    (fun os started H enc _ => fnPlanOdd_lifted os started H enc)
#print axioms fnPlanOdd_holds
end Go.Proofs.YtghgffhcdnmpnaaGreat
