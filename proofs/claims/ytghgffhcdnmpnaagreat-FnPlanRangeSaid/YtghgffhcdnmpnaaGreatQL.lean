/-
  A drawn region that only reads, a struct among what it loads. No program in sight. Conditions: those of the law's premises.
-/
import Derived.Test.YtghgffhcdnmpnaaGreatE3
namespace Go.Proofs.YtghgffhcdnmpnaaGreat
open Go.RowKit Go.Sort
theorem quiet_load_struct {P : Program} {C : World → Prop} {o : Oper} {a : Act} {K : Act → Prop} (ty : TypeId) (x : Operand) (ho : o.op = .load ty x) (ad : Addr) (hx : a.eval x = .pointer (some ad)) (v : Value)
    (hl : ∀ w, C w → (loadVar ty ad).run P w = .ok v w) (hk : K (a.put o.dst v)) : o.quiet P a C K :=
  ⟨v, fun w hw => by
    unfold Oper.quietAt execOp
    simp only [ho, hx, Instr.loadAt, Instr.sureAddr, Sem.run_bind, Sem.run_pure, Result.andThen_ok, hl w hw]
    exact ⟨rfl, rfl⟩, hk⟩
/-- A world that keeps all blocks of w. -/
structure KW (w0 : World) where
  /-- the world -/
  w : World
  /-- that keeps them -/
  k : Kept [] w0 w
instance {w : World} : Nonempty (KW w) := ⟨⟨w, Kept.refl [] w⟩⟩
theorem wp_region_quiet_k {P : Program} {id : Nat} {Q : Exit → Act → World → Prop} {a : Act} {w : World} {l : List Oper} (hm : P.follows .mixedOrders = true) (hB : Region.lexB .any l.toArray = true)
    (h : wpQuiet P l.toArray (fun w' => ∃ n : KW w, w' = n.w) (fun a' => ∀ w', (∃ n : KW w, w' = n.w) → Q .normal a' w') l a) : (Code.region id l.toArray true).wp P Q a w :=
  wp_region_quiet (C := fun w' => ∃ n : KW w, w' = n.w) hm hB ⟨⟨_, (Kept.refl [] w).drewN 1⟩, rfl⟩ (by simpa using h)
theorem Calls.quiet_k {P : Program} {f : FuncId} {args : Array Value} {w : World} {n : KW w} {v : Value}
    (h : Calls P f args n.w fun e w' => e = .returned v ∧ Kept [] n.w w') : Calls P f args n.w fun e w'' => e = .returned v ∧ ∃ m : KW w, w'' = m.w :=
  h.mono fun _ _ ⟨he, hm⟩ => ⟨he, ⟨_, n.k.trans0 hm⟩, rfl⟩
end Go.Proofs.YtghgffhcdnmpnaaGreat
