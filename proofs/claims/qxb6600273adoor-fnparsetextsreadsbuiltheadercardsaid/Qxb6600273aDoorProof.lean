/-
  FnParseTextsReadsBuiltHeader: the row, then the tied card.
-/
import Derived.Test.Qxb6600273aDoorMainFS
import Derived.Test.Qxb6600273aDoorMainTN
import Derived.Test.Qxb6600273aDoorMainTS
import Derived.Test.Qxb6600273aDoorTie
import Derived.Test.Qxb6600273aDoorCards
import Derived.ProofKit
import Derived.Lay
import Derived.SevenTiedAt
import Derived.SliceStrings
namespace Go.Proofs.Qxb6600273aDoor
open Go.ChangeShapes Go.WideShapes Go.ChangeAt Go.RowKit Go.WideMaps Go.WideElems
open Go.ChangeMaps (open_string shut_string)

theorem own : ownKnob Tryd.prog.godebug = none := by kernel_rfl
theorem laidOut : laidOutB Tryd.prog = true := by kernel_rfl
theorem cells9 : Tryd.prog.cellsOf 9 = 1 := by kernel_rfl

/-- FnParseTextsReadsBuiltHeader, at every input. -/
theorem main_any (p : Option Addr) (n c : Nat) (ps : List ByteArray) (agent date : ByteArray) (code : Int) (wd : Bool) (w : World) (hp : StrIn w p n ps) (hpn : p = none → n = 0 ∧ c = 0) (ha : agent.size ≤ 9223372036854775807) (hd : date.size ≤ 9223372036854775807) (hc1 : -9223372036854775808 ≤ code) (hc2 : code ≤ 9223372036854775807) :
    Calls Tryd.prog 3 #[.slice p n c, .string agent, .int .i64 code, .string date, .bool wd] w fun e w' => e = .returned (.bool true) ∧ Below w.heap.size w w' := by
  cases hwd : wd
  · cases hpp : p with
    | none => rw [hpp] at hp hpn; exact main_FN none n c ps agent date code false w hp hpn ha hd hc1 hc2 rfl rfl
    | some a => rw [hpp] at hp hpn; exact main_FS (some a) n c ps agent date code false w hp hpn ha hd hc1 hc2 rfl ⟨a, rfl⟩
  · cases hpp : p with
    | none => rw [hpp] at hp hpn; exact main_TN none n c ps agent date code true w hp hpn ha hd hc1 hc2 rfl rfl
    | some a => rw [hpp] at hp hpn; exact main_TS (some a) n c ps agent date code true w hp hpn ha hd hc1 hc2 rfl ⟨a, rfl⟩

theorem opened_strs {H : Type} {enc : TypeId × Value → H} {W : World} {a0 : Option Addr} {len cap : Nat} {d0 : DataW H} {p : List MemPlace}
    (h0 : DataW.Trod enc Tryd.prog W 0 (fun _ => true) true 22 (.slice a0 len cap) d0 p) : ∃ ss, StrIn W a0 len ss ∧ (a0 = none → len = 0 ∧ cap = 0) := by
  obtain ⟨fuel, hf⟩ := h0
  rcases open_strings Tryd.underlying22 Tryd.underlying9 cells9 hf with ⟨hcs, _⟩ | ⟨a, len', cap', ss, hcs, _, hl, hm, hz, _, hcell, hws⟩
  · simp [Value.cells] at hcs
    obtain ⟨rfl, rfl, rfl⟩ := hcs
    exact ⟨[], ⟨rfl, fun h => absurd rfl h, fun i s hs => by simp at hs, by omega⟩, fun _ => ⟨rfl, rfl⟩⟩
  · simp [Value.cells] at hcs
    obtain ⟨rfl, rfl, rfl⟩ := hcs
    simp only [if_true] at hz
    unfold maxLen at hm hws
    have hlen : (ss.take len).length = len := by rw [List.length_take]; omega
    refine ⟨ss.take len, ⟨hlen, fun hne => ?_, fun i s hs => hws s (List.mem_of_mem_take (List.mem_of_getElem? hs)), by omega⟩, fun h => by cases h⟩
    have h0 : 0 < len := by rw [← hlen]; exact List.length_pos_iff.2 hne
    obtain ⟨b, o, sp⟩ := a
    obtain rfl : sp = none := by simpa [Addr.add] using World.cell?_spot (hcell 0 (by omega))
    refine ⟨b, o, rfl, fun i s hs => ?_⟩
    have hi : i < len := by rw [← hlen]; exact (List.getElem?_eq_some_iff.1 hs).1
    rw [← Go.WideShapes.add_plain, hcell i (by omega), List.getD_eq_getElem?_getD]
    rw [List.getElem?_take, if_pos hi] at hs
    rw [hs]
    rfl

theorem i64_range {n : Int} (h : (Lit.int .i64 n).wf = true) : -9223372036854775808 ≤ n ∧ n ≤ 9223372036854775807 := by
  simpa [Lit.wf, IntKind.min, IntKind.max, IntKind.bits, IntKind.signed] using h

set_option maxHeartbeats 800000 in
set_option maxRecDepth 100000 in
theorem hdr_lifted (os : Os) (started : os.Started) (H : Type) (enc : TypeId × Value → H) :
    ReturnsInHanded {} Tryd.checked os 3 .any (fun w args => (Rows.fnParseTextsReadsBuiltHeaderSpec.pre enc Tryd.prog Tryd.f3 [] false w args ∧ laidMetH Tryd.prog Rows.fnParseTextsReadsBuiltHeaderRow.laid w) ∧ sizedMet enc Tryd.prog Tryd.f3 (OpenSpec.ofChange Rows.fnParseTextsReadsBuiltHeaderSpec) false w args)
      (Rows.fnParseTextsReadsBuiltHeaderSpec.post enc Tryd.prog Tryd.f3 false true false false) := by
  refine returnsInHanded_of_change_and (C := Tryd.checked) (X := fun w _ => laidMetH Tryd.prog Rows.fnParseTextsReadsBuiltHeaderRow.laid w) (fun _ _ _ hh h => h.of_heap hh) own started (by kernel_rfl) Tryd.func3
    (ChangeSpec.witness_shaped (enc := enc) (C := Tryd.checked) (os := os) (X := fun w _ => laidMetH Tryd.prog Rows.fnParseTextsReadsBuiltHeaderRow.laid w) false (World.laidAll Tryd.prog os Rows.fnParseTextsReadsBuiltHeaderRow.laid) #[.slice none 0 0, .string ⟨#[]⟩, .int .i64 0, .string ⟨#[]⟩, .bool false] 8 (World.laidAll_os _ _ _)
      (World.shaped_of_ZipB (by kernel_rfl) (by kernel_rfl)) (by kernel_rfl) (by kernel_rfl) (by kernel_rfl)
      (by rw [MakeChecks.laidMetH_plain _ _ _ (by kernel_rfl)]; exact laidMet_laidAll _ (by kernel_rfl) (by kernel_rfl))) ?_
  intro W base args ds gs before hval0 hW _ _ hL _
  have hval : ∀ (j : Nat) t v, Tryd.f3.params[j]? = some t → args[j]? = some v → Value.okWide Tryd.prog W .any base t v := hval0
  have hW' := hW
  obtain ⟨p, q, hA0, hV, rfl, _, _⟩ := hW
  have hA : DataW.TrodAll enc Tryd.prog W 0 (fun _ => true) true Tryd.f3.params.toList args.toList ds p := hA0
  rw [Tryd.params3] at hA hval
  obtain ⟨v0, vs0, d0, ds0, p0, q0, hargs, rfl, rfl, h0, hr0⟩ := trodAll_cons hA
  obtain ⟨v1, vs1, d1, ds1, p1, q1, rfl, rfl, rfl, h1, hr1⟩ := trodAll_cons hr0
  obtain ⟨v2, vs2, d2, ds2, p2, q2, rfl, rfl, rfl, h2, hr2⟩ := trodAll_cons hr1
  obtain ⟨v3, vs3, d3, ds3, p3, q3, rfl, rfl, rfl, h3, hr3⟩ := trodAll_cons hr2
  obtain ⟨v4, vs4, d4, ds4, p4, q4, rfl, rfl, rfl, h4, hr4⟩ := trodAll_cons hr3
  obtain ⟨rfl, rfl, rfl⟩ := trodAll_nil hr4
  obtain rfl : args = #[v0, v1, v2, v3, v4] := by cases args; simp_all
  obtain ⟨rfl, rfl⟩ := trodVars_none hV
  obtain ⟨a0, len0, cap0, rfl⟩ := okWide_slice Tryd.underlying22 (hval 0 22 v0 rfl rfl)
  obtain ⟨s1, rfl, rfl, rfl, k1⟩ := open_string Tryd.underlying9 (hval 1 9 v1 rfl rfl) h1
  obtain ⟨n2, rfl, rfl, rfl, k2⟩ := open_int Tryd.underlying3 (hval 2 3 v2 rfl rfl) h2
  obtain ⟨s3, rfl, rfl, rfl, k3⟩ := open_string Tryd.underlying9 (hval 3 9 v3 rfl rfl) h3
  obtain ⟨b4, rfl, rfl, rfl⟩ := open_bool Tryd.underlying4 (hval 4 4 v4 rfl rfl) h4
  clear hA0 hval0
  simp only [List.append_nil] at hW'
  have hlt0 : ∀ x ∈ p0, x.block < W.heap.size := fun x hx => by simpa using hW'.lt x (by simp [hx])
  obtain ⟨ps, hps, hn0⟩ := opened_strs h0
  obtain ⟨r1, r2⟩ := i64_range k2
  refine (main_any a0 len0 cap0 ps s1 s3 n2 b4 W hps hn0 k1 k3 r1 r2).mono fun e W' ⟨he, hb⟩ => ?_
  subst he
  have harg0 := Below.trod laidOut (by kernel_rfl) (of_decide_eq_true (by kernel_rfl)) h0 hb hlt0
  exact ⟨_, rfl, _, _, _, [], p0, [], hW', trodAll_mk1 (shut_bool Tryd.underlying4 _), ⟨p0, [], harg0, trodAll_mk4 (shut_string Tryd.underlying9 k1) (shut_int Tryd.underlying3 k2) (shut_string Tryd.underlying9 k3) (shut_bool Tryd.underlying4 b4), by simp⟩, rfl, hb.frame _, fun h => by cases h⟩

theorem hdr_holds : Rows.FnParseTextsReadsBuiltHeaderSaid :=
  OpenClaim.holds_of_wide 3 Tryd.f3 rfl rfl rfl rfl rfl rfl rfl ⟨rfl, rfl, rfl, rfl, rfl⟩ rfl rfl rfl rfl rfl (by kernel_rfl) Tryd.func3 (by kernel_rfl)
    (of_decide_eq_true (by kernel_rfl)) (by unfold Func.isWrapper; first | (rw [if_pos (by decide +kernel)]; kernel_rfl) | (rw [if_neg (by decide +kernel)]; exact ⟨rfl, rfl⟩))
    (fun os started H enc _ => hdr_lifted os started H enc)

theorem parseTextsReadsBuiltHeader_card : Rows.FnParseTextsReadsBuiltHeaderCardSaid :=
  Claim7.holds_tied_plain_at .later [] [.data, .pinned] true Rows.fnParseTextsReadsBuiltHeaderCard.stood.harness false
    hdr_holds (fun _ h => by cases h) (by kernel_rfl) (fun _ h => by cases h) fnParseTextsReadsBuiltHeader_row_tie rfl ⟨rfl, rfl⟩ (by kernel_rfl) rfl
    (fun f fn hf hfn => by
      obtain rfl : f = 3 := Option.some.inj ((show Tryd.prog.funcNamed Rows.fnParseTextsReadsBuiltHeaderRow.func = some 3 by kernel_rfl).symm.trans hf) |>.symm
      obtain rfl : fn = Tryd.f3 := (Option.some.inj (Tryd.func3.symm.trans hfn)).symm
      exact ⟨by kernel_rfl, fun j t ht => by
        rw [Tryd.params3] at ht
        have hm : t ∈ [22, 9, 3, 9, 4] := by simpa using Array.mem_of_getElem? ht
        have hall : ([22, 9, 3, 9, 4].all fun u => !Tryd.prog.wantsStandIn u) = true := by kernel_rfl
        exact (show Tryd.prog.wantsStandIn t = false by simpa using List.all_eq_true.1 hall t hm)⟩)
    (by kernel_rfl)
end Go.Proofs.Qxb6600273aDoor
