/-
  What both rows of this seat share: the world's shape kept beside what is listed; the tables out of what is listed.
-/
import Derived.Test.Qxb6002908aDoorIdx
import Derived.Test.Qxb6002908aDoorTie
import Derived.Test.Qxb6002908aDoorCards
import Derived.ProofKit
import Derived.Lay
import Derived.SevenTiedAt
import Derived.Lib.LaidU8T
import Derived.Lib.SlBytesRowKit
import Derived.Shelf.Vars
namespace Go.Proofs.Qxb6002908aDoor
open Go.ChangeShapes Go.WideShapes Go.ChangeAt Go.RowKit Go.Shelf Go.Lib

section
variable {H : Type} {enc : TypeId × Value → H}
/-- The listed variables' condition and the world's shape, both handed to the contract. -/
theorem lift_shaped {a : Assume} {C : Checked} {os : Os} {f : FuncId} {fn : Func} {s : ChangeSpec} {conds : List PathCond} {apart fresh handsOn again : Bool} {X : World → Array Value → Prop}
    (hX : ∀ (w w' : World) (args : Array Value), w.heap = w'.heap → X w args → X w' args)
    (own : ownKnob C.prog.godebug = none) (started : os.Started) (noInit : C.prog.inits.idxOf? f = none) (hfn : C.prog.funcs[f]? = some fn)
    (witness : ∃ (w : World) (tape : Tape) (i : Input), w.os = os ∧ (w.forCall tape i).Shaped C.prog ∧ i.vars = [] ∧ Input.okWide C.prog (w.forCall tape i) .any w.heap.size f i ∧
      ((s.pre enc C.prog fn conds apart (w.forCall tape i).memory i.args ∧ X (w.forCall tape i).memory i.args) ∧ sizedMet enc C.prog fn (OpenSpec.ofChange s) apart (w.forCall tape i).memory i.args) ∧ a.holds C.prog (lone (Frame.enter C.prog f i.args .normal) [] (w.forCall tape i)))
    (contract : ∀ (W : World) (base : Nat) (args : Array Value) (ds gs : List (DataW H)) (before : List MemPlace),
      (∀ (j : Nat) t v, fn.params[j]? = some t → args[j]? = some v → Value.okWide C.prog W .any base t v) →
      DataW.Whole enc C.prog fn.params.toList s.vars apart W args.toList ds gs before →
      conds.all (PathCond.test C.prog ⟨fn.params.toList, ds, s.plain.varTypes C.prog, gs⟩) = true →
      (DataW.weightsEach C.prog (fn.params.toList ++ s.plain.varTypes C.prog) (ds ++ gs)).all (· ≤ reachBytes) = true → X W args → W.ShapedOpen C.prog →
      Calls C.prog f args W fun e W' => ∃ v, e = .returned v ∧ s.post enc C.prog fn apart fresh handsOn again W args v W') :
    ReturnsInHanded a C os f .any (fun w args => (s.pre enc C.prog fn conds apart w args ∧ X w args) ∧ sizedMet enc C.prog fn (OpenSpec.ofChange s) apart w args) (s.post enc C.prog fn apart fresh handsOn again) := by
  refine returnsInHanded_of_calls own started noInit witness ?_
  intro w tape i _ hsh _ hok hpre _
  obtain ⟨_, _, _, fn', hfn', _, _, _, _, hval⟩ := hok
  have e : fn' = fn := Option.some.inj (hfn'.symm.trans hfn)
  subst e
  obtain ⟨⟨⟨ds, gs, before, hw, hc⟩, hx⟩, hz⟩ := hpre
  have hw' := DataW.Whole.of_heap (w' := w.forCall tape i) (by rfl) hw
  refine (contract (w.forCall tape i) w.heap.size i.args ds gs before hval hw' hc (hz.weights hw) (hX _ _ _ (by rfl) hx) hsh).mono fun e W' ⟨v, he, hp⟩ => ?_
  subst he
  exact ChangeSpec.post_blind hp
end

def seatLaid : List (String × DataW Unit) := [("unicode/utf8.acceptRanges", Rows.laid_unicode_utf8_acceptRanges), ("unicode/utf8.first", Rows.laid_unicode_utf8_first)]
theorem first_eq : Rows.laid_unicode_utf8_first = Lib.firstData := by kernel_rfl
theorem accept_eq : (Rows.laid_unicode_utf8_acceptRanges : DataW Unit) = Lib.acceptData := by kernel_rfl

/-- The numbers of the tables and their types at this dump. -/
def tabRen : Go.Shelf.Ren := ⟨fun n => n, fun | 5 => 5 | 119 => 57 | 138 => 59 | 139 => 60 | n => n, fun | 3 => Tryd.lays32_ren.g 2 | 4 => Tryd.lays32_ren.g 3 | n => n⟩
theorem tabTypes : U8Types Tryd.prog tabRen := ⟨Tryd.underlying5, by kernel_rfl, by kernel_rfl, by kernel_rfl⟩
theorem tabExtra : U8Extra Tryd.prog tabRen := ⟨by kernel_rfl, by kernel_rfl, by kernel_rfl, by kernel_rfl, by kernel_rfl, by kernel_rfl, by kernel_rfl⟩

theorem libs_of {W : World} (hL : laidMetH Tryd.prog seatLaid W) (hsh : W.ShapedOpen Tryd.prog) : Libs W := by
  rw [MakeChecks.laidMetH_plain _ _ _ (by kernel_rfl)] at hL
  refine ⟨?_, ?_⟩
  · have h1 := Lib.laidMet.reads hL (.head _)
    have h2 := Lib.laidMet.reads hL (.tail _ (.head _))
    exact utf8Tabs_of_readsT tabTypes tabExtra (first_eq ▸ h2) (accept_eq ▸ h1)
  · exact cell_of_shapedOpen_int (t := 3) (zero := #[.int .i64 0]) hsh (of_decide_eq_true (by kernel_rfl)) (by kernel_rfl) rfl (by kernel_rfl) (by kernel_rfl) Tryd.underlying3

theorem own : ownKnob Tryd.prog.godebug = none := by kernel_rfl
theorem laidOut : laidOutB Tryd.prog = true := by kernel_rfl
theorem cells5 : Tryd.prog.cellsOf 5 = 1 := by kernel_rfl
end Go.Proofs.Qxb6002908aDoor
