/-
  FnLineSplitsJoinedLines: the row, then the tied card.
-/
import Derived.Test.Qxb6002908aDoorGood
import Derived.Test.Qxb6002908aDoorRow
import Derived.SliceStrings
namespace Go.Proofs.Qxb6002908aDoor
open Go.ChangeShapes Go.WideShapes Go.ChangeAt Go.RowKit Go.Shelf

theorem cells9 : Tryd.prog.cellsOf 9 = 1 := by kernel_rfl

/-- FnLineSplitsJoinedLines, at every input. -/
theorem split_any (p q : Option Addr) (n m c d : Nat) (ps es : List ByteArray) (w : World) (hp : StrIn w p n ps) (he : StrIn w q m es) (hpn : p = none → n = 0 ∧ c = 0) (hqn : q = none → m = 0 ∧ d = 0) (hL : Libs w) :
    Calls Tryd.prog 4 #[.slice p n c, .slice q m d] w fun e w' => e = .returned (.bool true) ∧ Below w.heap.size w w' := by
  by_cases hg : Good n m ps es
  · exact split_good p q n m c d ps es w ⟨hp, he, hpn, hqn, hg, hL⟩
  · exact split_bad p q n m c d ps es w hp he hg

theorem opened_strs {H : Type} {enc : TypeId × Value → H} {W : World} {a0 : Option Addr} {len cap : Nat} {d0 : DataW H} {p : List MemPlace}
    (h0 : DataW.Trod enc Tryd.prog W 0 (fun _ => true) true 29 (.slice a0 len cap) d0 p) : ∃ ss, StrIn W a0 len ss ∧ (a0 = none → len = 0 ∧ cap = 0) := by
  obtain ⟨fuel, hf⟩ := h0
  rcases open_strings Tryd.underlying29 Tryd.underlying9 cells9 hf with ⟨hcs, _⟩ | ⟨a, len', cap', ss, hcs, _, hl, hm, hz, _, hcell, hws⟩
  · simp [Value.cells] at hcs
    obtain ⟨rfl, rfl, rfl⟩ := hcs
    exact ⟨[], ⟨rfl, fun h => absurd rfl h, fun i s hs => by simp at hs, by omega⟩, fun _ => ⟨rfl, rfl⟩⟩
  · simp [Value.cells] at hcs
    obtain ⟨rfl, rfl, rfl⟩ := hcs
    simp only [if_true] at hz
    unfold maxLen at hm hws
    have hlen : (ss.take len).length = len := by rw [List.length_take]; omega
    refine ⟨ss.take len, ⟨hlen, fun hne => ?_, fun i s hs => hws s (List.mem_of_mem_take (List.mem_of_getElem? hs)), by omega⟩, fun h => by cases h⟩
    have h0 : 0 < len := by rw [← hlen]; exact List.length_pos_iff.2 hne
    obtain ⟨b, o, sp⟩ := a
    obtain rfl : sp = none := by simpa [Addr.add] using World.cell?_spot (hcell 0 (by omega))
    refine ⟨b, o, rfl, fun i s hs => ?_⟩
    have hi : i < len := by rw [← hlen]; exact (List.getElem?_eq_some_iff.1 hs).1
    rw [← Go.WideShapes.add_plain, hcell i (by omega), List.getD_eq_getElem?_getD]
    rw [List.getElem?_take, if_pos hi] at hs
    rw [hs]
    rfl

set_option maxHeartbeats 800000 in
set_option maxRecDepth 100000 in
theorem split_lifted (os : Os) (started : os.Started) (H : Type) (enc : TypeId × Value → H) :
    ReturnsInHanded {} Tryd.checked os 4 .any (fun w args => (Rows.fnLineSplitsJoinedLinesSpec.pre enc Tryd.prog Tryd.f4 [] false w args ∧ laidMetH Tryd.prog seatLaid w) ∧ sizedMet enc Tryd.prog Tryd.f4 (OpenSpec.ofChange Rows.fnLineSplitsJoinedLinesSpec) false w args)
      (Rows.fnLineSplitsJoinedLinesSpec.post enc Tryd.prog Tryd.f4 false true false false) := by
  refine lift_shaped (C := Tryd.checked) (X := fun w _ => laidMetH Tryd.prog seatLaid w) (fun _ _ _ hh h => h.of_heap hh) own started (by kernel_rfl) Tryd.func4
    (ChangeSpec.witness_shaped (enc := enc) (C := Tryd.checked) (os := os) (X := fun w _ => laidMetH Tryd.prog seatLaid w) false (World.laidAll Tryd.prog os seatLaid) #[.slice none 0 0, .slice none 0 0] 8 (World.laidAll_os _ _ _)
      (World.shaped_of_ZipB (by kernel_rfl) (by kernel_rfl)) (by kernel_rfl) (by kernel_rfl) (by kernel_rfl)
      (by rw [MakeChecks.laidMetH_plain _ _ _ (by kernel_rfl)]; exact laidMet_laidAll _ (by kernel_rfl) (by kernel_rfl))) ?_
  intro W base args ds gs before hval0 hW _ _ hL hsh
  have hval : ∀ (j : Nat) t v, Tryd.f4.params[j]? = some t → args[j]? = some v → Value.okWide Tryd.prog W .any base t v := hval0
  have hW' := hW
  obtain ⟨p, q, hA0, hV, rfl, _, _⟩ := hW
  have hA : DataW.TrodAll enc Tryd.prog W 0 (fun _ => true) true Tryd.f4.params.toList args.toList ds p := hA0
  rw [Tryd.params4] at hA hval
  obtain ⟨v0, v1, d0, d1, p0, p1, rfl, rfl, rfl, h0, h1⟩ := trodAll_two hA
  obtain ⟨rfl, rfl⟩ := trodVars_none hV
  obtain ⟨a0, len0, cap0, rfl⟩ := okWide_slice Tryd.underlying29 (hval 0 29 v0 rfl rfl)
  obtain ⟨a1, len1, cap1, rfl⟩ := okWide_slice Tryd.underlying29 (hval 1 29 v1 rfl rfl)
  clear hA0 hval0
  simp only [List.append_nil] at hW'
  have hlt0 : ∀ x ∈ p0, x.block < W.heap.size := fun x hx => by simpa using hW'.lt x (by simp [hx])
  have hlt1 : ∀ x ∈ p1, x.block < W.heap.size := fun x hx => by simpa using hW'.lt x (by simp [hx])
  obtain ⟨ps, hps, hn0⟩ := opened_strs h0
  obtain ⟨es, hes, hn1⟩ := opened_strs h1
  refine (split_any a0 a1 len0 len1 cap0 cap1 ps es W hps hes hn0 hn1 (libs_of hL hsh)).mono fun e W' ⟨he, hb⟩ => ?_
  subst he
  have harg0 := Below.trod laidOut (by kernel_rfl) (of_decide_eq_true (by kernel_rfl)) h0 hb hlt0
  have harg1 := Below.trod laidOut (by kernel_rfl) (of_decide_eq_true (by kernel_rfl)) h1 hb hlt1
  exact ⟨_, rfl, _, _, _, [], p0 ++ p1, [], hW', trodAll_mk1 (shut_bool Tryd.underlying4 _), trodAll_mk2 harg0 harg1, rfl, hb.frame _, fun h => by cases h⟩

theorem split_holds : Rows.FnLineSplitsJoinedLinesSaid :=
  OpenClaim.holds_of_wide 4 Tryd.f4 rfl rfl rfl rfl rfl rfl rfl ⟨rfl, rfl, rfl, rfl, rfl⟩ rfl rfl rfl rfl rfl (by kernel_rfl) Tryd.func4 (by kernel_rfl)
    (of_decide_eq_true (by kernel_rfl)) (by unfold Func.isWrapper; first | (rw [if_pos (by decide +kernel)]; kernel_rfl) | (rw [if_neg (by decide +kernel)]; exact ⟨rfl, rfl⟩))
    (fun os started H enc _ => split_lifted os started H enc)

theorem lineSplitsJoinedLines_card : Rows.FnLineSplitsJoinedLinesCardSaid :=
  Claim7.holds_tied_plain_at .later [] [.data, .pinned] true Rows.fnLineSplitsJoinedLinesCard.stood.harness false
    split_holds (fun _ h => by cases h) (by kernel_rfl) (fun _ h => by cases h) fnLineSplitsJoinedLines_row_tie rfl ⟨rfl, rfl⟩ (by kernel_rfl) rfl
    (fun f fn hf hfn => by
      obtain rfl : f = 4 := Option.some.inj ((show Tryd.prog.funcNamed Rows.fnLineSplitsJoinedLinesRow.func = some 4 by kernel_rfl).symm.trans hf) |>.symm
      obtain rfl : fn = Tryd.f4 := (Option.some.inj (Tryd.func4.symm.trans hfn)).symm
      exact ⟨by kernel_rfl, fun j t ht => by
        rw [Tryd.params4] at ht
        have hm : t ∈ [29, 29] := by simpa using Array.mem_of_getElem? ht
        have hall : ([29, 29].all fun u => !Tryd.prog.wantsStandIn u) = true := by kernel_rfl
        exact (show Tryd.prog.wantsStandIn t = false by simpa using List.all_eq_true.1 hall t hm)⟩)
    (by kernel_rfl)
end Go.Proofs.Qxb6002908aDoor
