/-
  FnIsAddressDecimalQuads: the row, then the tied card.
-/
import Derived.Test.Qxb6003357aDoorQuads
import Derived.Test.Qxb6003357aDoorTie
import Derived.Test.Qxb6003357aDoorCards
import Derived.ProofKit
import Derived.Lay
import Derived.SevenTiedAt
namespace Go.Proofs.Qxb6003357aDoor
open Go.ChangeShapes Go.WideShapes Go.ChangeAt Go.RowKit Go.WideMaps Go.WideElems
open Go.ChangeMaps (open_string shut_string)

theorem own : ownKnob Tryd.prog.godebug = none := by kernel_rfl

theorem u32_nat {n : Int} (h : (Lit.int .u32 n).wf = true) : ∃ m : Nat, n = (m : Int) ∧ m < 4294967296 := by
  have h2 : 0 ≤ n ∧ n ≤ 4294967295 := by simpa [Lit.wf, IntKind.min, IntKind.max, IntKind.bits, IntKind.signed] using h
  exact ⟨n.toNat, by omega, by omega⟩

set_option maxHeartbeats 800000 in
set_option maxRecDepth 100000 in
theorem quads_lifted (os : Os) (started : os.Started) (H : Type) (enc : TypeId × Value → H) :
    ReturnsInHanded {} Tryd.checked os 4 .any (fun w args => (Rows.fnIsAddressDecimalQuadsSpec.pre enc Tryd.prog Tryd.f4 [] false w args ∧ laidMetH Tryd.prog Rows.fnIsAddressDecimalQuadsRow.laid w) ∧ sizedMet enc Tryd.prog Tryd.f4 (OpenSpec.ofChange Rows.fnIsAddressDecimalQuadsSpec) false w args)
      (Rows.fnIsAddressDecimalQuadsSpec.post enc Tryd.prog Tryd.f4 false true false false) := by
  refine returnsInHanded_of_change_and (C := Tryd.checked) (X := fun w _ => laidMetH Tryd.prog Rows.fnIsAddressDecimalQuadsRow.laid w) (fun _ _ _ hh h => h.of_heap hh) own started (by kernel_rfl) Tryd.func4
    (ChangeSpec.witness_shaped (enc := enc) (C := Tryd.checked) (os := os) (X := fun w _ => laidMetH Tryd.prog Rows.fnIsAddressDecimalQuadsRow.laid w) false (World.laidAll Tryd.prog os Rows.fnIsAddressDecimalQuadsRow.laid) #[.int .u32 0, .int .u32 0, .int .u32 0, .int .u32 0, .string ⟨#[]⟩] 8 (World.laidAll_os _ _ _)
      (World.shaped_of_ZipB (by kernel_rfl) (by kernel_rfl)) (by kernel_rfl) (by kernel_rfl) (by kernel_rfl)
      (by rw [MakeChecks.laidMetH_plain _ _ _ (by kernel_rfl)]; exact laidMet_laidAll _ (by kernel_rfl) (by kernel_rfl))) ?_
  intro W base args ds gs before hval0 hW _ _ hL _
  have hval : ∀ (j : Nat) t v, Tryd.f4.params[j]? = some t → args[j]? = some v → Value.okWide Tryd.prog W .any base t v := hval0
  have hW' := hW
  obtain ⟨p, q, hA0, hV, rfl, _, _⟩ := hW
  have hA : DataW.TrodAll enc Tryd.prog W 0 (fun _ => true) true Tryd.f4.params.toList args.toList ds p := hA0
  rw [Tryd.params4] at hA hval
  obtain ⟨v0, vs0, d0, ds0, p0, q0, hargs, rfl, rfl, h0, hr0⟩ := trodAll_cons hA
  obtain ⟨v1, vs1, d1, ds1, p1, q1, rfl, rfl, rfl, h1, hr1⟩ := trodAll_cons hr0
  obtain ⟨v2, vs2, d2, ds2, p2, q2, rfl, rfl, rfl, h2, hr2⟩ := trodAll_cons hr1
  obtain ⟨v3, vs3, d3, ds3, p3, q3, rfl, rfl, rfl, h3, hr3⟩ := trodAll_cons hr2
  obtain ⟨v4, vs4, d4, ds4, p4, q4, rfl, rfl, rfl, h4, hr4⟩ := trodAll_cons hr3
  obtain ⟨rfl, rfl, rfl⟩ := trodAll_nil hr4
  obtain rfl : args = #[v0, v1, v2, v3, v4] := by cases args; simp_all
  obtain ⟨rfl, rfl⟩ := trodVars_none hV
  obtain ⟨n0, rfl, rfl, rfl, k0⟩ := open_int Tryd.underlying32 (hval 0 32 v0 rfl rfl) h0
  obtain ⟨n1, rfl, rfl, rfl, k1⟩ := open_int Tryd.underlying32 (hval 1 32 v1 rfl rfl) h1
  obtain ⟨n2, rfl, rfl, rfl, k2⟩ := open_int Tryd.underlying32 (hval 2 32 v2 rfl rfl) h2
  obtain ⟨n3, rfl, rfl, rfl, k3⟩ := open_int Tryd.underlying32 (hval 3 32 v3 rfl rfl) h3
  obtain ⟨s, rfl, rfl, rfl, hs⟩ := open_string Tryd.underlying9 (hval 4 9 v4 rfl rfl) h4
  obtain ⟨m0, rfl, l0⟩ := u32_nat k0
  obtain ⟨m1, rfl, l1⟩ := u32_nat k1
  obtain ⟨m2, rfl, l2⟩ := u32_nat k2
  obtain ⟨m3, rfl, l3⟩ := u32_nat k3
  simp only [List.append_nil] at hW'
  refine (quads_any m0 m1 m2 m3 s W l0 l1 l2 l3 hs).mono fun e W' ⟨he, hb⟩ => ?_
  subst he
  exact ⟨_, rfl, _, _, _, [], [], [], hW', trodAll_mk1 (shut_bool Tryd.underlying4 _), ⟨[], [], shut_int Tryd.underlying32 k0, trodAll_mk4 (shut_int Tryd.underlying32 k1) (shut_int Tryd.underlying32 k2) (shut_int Tryd.underlying32 k3) (shut_string Tryd.underlying9 hs), rfl⟩, rfl, hb.frame _, fun h => by cases h⟩

theorem quads_holds : Rows.FnIsAddressDecimalQuadsSaid :=
  OpenClaim.holds_of_wide 4 Tryd.f4 rfl rfl rfl rfl rfl rfl rfl ⟨rfl, rfl, rfl, rfl, rfl⟩ rfl rfl rfl rfl rfl (by kernel_rfl) Tryd.func4 (by kernel_rfl)
    (of_decide_eq_true (by kernel_rfl)) (by unfold Func.isWrapper; first | (rw [if_pos (by decide +kernel)]; kernel_rfl) | (rw [if_neg (by decide +kernel)]; exact ⟨rfl, rfl⟩))
    (fun os started H enc _ => quads_lifted os started H enc)

theorem isAddressDecimalQuads_card : Rows.FnIsAddressDecimalQuadsCardSaid :=
  Claim7.holds_tied_plain_at .later [] [.data, .pinned] true Rows.fnIsAddressDecimalQuadsCard.stood.harness false
    quads_holds (fun _ h => by cases h) (by kernel_rfl) (fun _ h => by cases h) fnIsAddressDecimalQuads_row_tie rfl ⟨rfl, rfl⟩ (by kernel_rfl) rfl
    (fun f fn hf hfn => by
      obtain rfl : f = 4 := Option.some.inj ((show Tryd.prog.funcNamed Rows.fnIsAddressDecimalQuadsRow.func = some 4 by kernel_rfl).symm.trans hf) |>.symm
      obtain rfl : fn = Tryd.f4 := (Option.some.inj (Tryd.func4.symm.trans hfn)).symm
      exact ⟨by kernel_rfl, fun j t ht => by
        rw [Tryd.params4] at ht
        have hm : t ∈ [32, 32, 32, 32, 9] := by simpa using Array.mem_of_getElem? ht
        have hall : ([32, 32, 32, 32, 9].all fun u => !Tryd.prog.wantsStandIn u) = true := by kernel_rfl
        exact (show Tryd.prog.wantsStandIn t = false by simpa using List.all_eq_true.1 hall t hm)⟩)
    (by kernel_rfl)
end Go.Proofs.Qxb6003357aDoor
