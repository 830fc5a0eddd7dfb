/-
  FnLineMatchesSpec: the row, then the tied card.
-/
import Derived.Test.Qxb6002908aDoorMatch5
import Derived.Test.Qxb6002908aDoorRow
namespace Go.Proofs.Qxb6002908aDoor
open Go.ChangeShapes Go.WideShapes Go.ChangeAt Go.RowKit Go.Shelf

theorem bat_of {w : World} {p : Option Addr} {n : Nat} {xs : List Int} (h : Lib.BytesIn w p n xs) (hx : xs.length = n) (hr : ∀ x ∈ xs, 0 ≤ x ∧ x < 256) : BAt w p (Lib.bytesOf xs) := fun hne => by
  have hl : (Lib.bytesOf xs).length = n := by rw [Lib.bytesOf_length, hx]
  have h0 : 0 < n := by rw [← hl]; exact List.length_pos_iff.2 hne
  obtain ⟨b, o, rfl, hc⟩ := Lib.BytesIn.at8 h hx hr h0
  refine ⟨b, o, rfl, fun i x hxi => ?_⟩
  have hi : i < n := by rw [← hl]; exact (List.getElem?_eq_some_iff.1 hxi).1
  rw [hc i hi, List.getD_eq_getElem?_getD, hxi]
  rfl

theorem cap_max {H : Type} {enc : TypeId × Value → H} {W : World} {a0 : Option Addr} {len cap : Nat} {d0 : DataW H} {p : List MemPlace}
    (h0 : DataW.Trod enc Tryd.prog W 0 (fun _ => true) true 22 (.slice a0 len cap) d0 p) : cap ≤ 9223372036854775807 := by
  obtain ⟨fuel, hf⟩ := h0
  rcases open_ints Tryd.underlying22 Tryd.underlying5 cells5 hf with ⟨hcs, _⟩ | ⟨a', len', cap', zs, hcs, _, hl, hmx, _, _, _, _⟩
  · simp [Value.cells] at hcs
    omega
  · simp [Value.cells] at hcs
    unfold maxLen at hmx
    omega

set_option maxHeartbeats 800000 in
set_option maxRecDepth 100000 in
theorem match_lifted (os : Os) (started : os.Started) (H : Type) (enc : TypeId × Value → H) :
    ReturnsInHanded {} Tryd.checked os 3 .any (fun w args => (Rows.fnLineMatchesSpecSpec.pre enc Tryd.prog Tryd.f3 [] false w args ∧ laidMetH Tryd.prog seatLaid w) ∧ sizedMet enc Tryd.prog Tryd.f3 (OpenSpec.ofChange Rows.fnLineMatchesSpecSpec) false w args)
      (Rows.fnLineMatchesSpecSpec.post enc Tryd.prog Tryd.f3 false true false false) := by
  refine lift_shaped (C := Tryd.checked) (X := fun w _ => laidMetH Tryd.prog seatLaid w) (fun _ _ _ hh h => h.of_heap hh) own started (by kernel_rfl) Tryd.func3
    (ChangeSpec.witness_shaped (enc := enc) (C := Tryd.checked) (os := os) (X := fun w _ => laidMetH Tryd.prog seatLaid w) false (World.laidAll Tryd.prog os seatLaid) #[.slice none 0 0, .int .i64 0, .int .i64 0, .bool false] 8 (World.laidAll_os _ _ _)
      (World.shaped_of_ZipB (by kernel_rfl) (by kernel_rfl)) (by kernel_rfl) (by kernel_rfl) (by kernel_rfl)
      (by rw [MakeChecks.laidMetH_plain _ _ _ (by kernel_rfl)]; exact laidMet_laidAll _ (by kernel_rfl) (by kernel_rfl))) ?_
  intro W base args ds gs before hval0 hW _ _ hL hsh
  have hval : ∀ (j : Nat) t v, Tryd.f3.params[j]? = some t → args[j]? = some v → Value.okWide Tryd.prog W .any base t v := hval0
  have hW' := hW
  obtain ⟨p, q, hA0, hV, rfl, _, _⟩ := hW
  have hA : DataW.TrodAll enc Tryd.prog W 0 (fun _ => true) true Tryd.f3.params.toList args.toList ds p := hA0
  rw [Tryd.params3] at hA hval
  obtain ⟨v0, v1, v2, v3, d0, d1, d2, d3, p0, p1, p2, p3, rfl, rfl, rfl, h0, h1, h2, h3⟩ := trodAll_four hA
  obtain ⟨rfl, rfl⟩ := trodVars_none hV
  obtain ⟨a0, len0, cap0, rfl⟩ := okWide_slice Tryd.underlying22 (hval 0 22 v0 rfl rfl)
  obtain ⟨pos, rfl, rfl, rfl, wpos⟩ := open_int Tryd.underlying3 (hval 1 3 v1 rfl rfl) h1
  obtain ⟨sc, rfl, rfl, rfl, wsc⟩ := open_int Tryd.underlying3 (hval 2 3 v2 rfl rfl) h2
  obtain ⟨fin, rfl, rfl, rfl⟩ := open_bool Tryd.underlying4 (hval 3 4 v3 rfl rfl) h3
  clear hA0 hval0
  simp only [List.append_nil] at hW'
  have hlt : ∀ x ∈ p0, x.block < W.heap.size := fun x hx => by simpa using hW'.lt x (by simp [hx])
  obtain ⟨xs, hx, hc0, hB0, e0, hr0, hnil⟩ := opened_bytes Tryd.underlying22 Tryd.underlying5 cells5 h0
  have hl0 : (Lib.bytesOf xs).length = len0 := by rw [Lib.bytesOf_length, hx]
  have b1 : -9223372036854775808 ≤ pos ∧ pos ≤ 9223372036854775807 := by simpa [Lit.wf, IntKind.min, IntKind.max, IntKind.signed, IntKind.bits] using wpos
  have b2 : -9223372036854775808 ≤ sc ∧ sc ≤ 9223372036854775807 := by simpa [Lit.wf, IntKind.min, IntKind.max, IntKind.signed, IntKind.bits] using wsc
  refine (match_any a0 len0 cap0 pos sc fin (Lib.bytesOf xs) W hl0 hc0 (cap_max h0) (fun h => by have := hnil h; omega) (bat_of hB0 hx hr0) (libs_of hL hsh) b1 b2).mono fun e W' ⟨he, hb⟩ => ?_
  subst he
  have harg := Below.trod laidOut (by kernel_rfl) (of_decide_eq_true (by kernel_rfl)) h0 hb hlt
  exact ⟨_, rfl, _, _, _, [], p0 ++ ([] ++ ([] ++ [])), [], hW', trodAll_mk1 (shut_bool Tryd.underlying4 _), trodAll_mk4 harg (shut_int Tryd.underlying3 wpos) (shut_int Tryd.underlying3 wsc) (shut_bool Tryd.underlying4 _), rfl, hb.frame _, fun h => by cases h⟩

theorem match_holds : Rows.FnLineMatchesSpecSaid :=
  OpenClaim.holds_of_wide 3 Tryd.f3 rfl rfl rfl rfl rfl rfl rfl ⟨rfl, rfl, rfl, rfl, rfl⟩ rfl rfl rfl rfl rfl (by kernel_rfl) Tryd.func3 (by kernel_rfl)
    (of_decide_eq_true (by kernel_rfl)) (by unfold Func.isWrapper; first | (rw [if_pos (by decide +kernel)]; kernel_rfl) | (rw [if_neg (by decide +kernel)]; exact ⟨rfl, rfl⟩))
    (fun os started H enc _ => match_lifted os started H enc)

theorem lineMatchesSpec_card : Rows.FnLineMatchesSpecCardSaid :=
  Claim7.holds_tied_plain_at .later [] [.data, .pinned] true Rows.fnLineMatchesSpecCard.stood.harness false
    match_holds (fun _ h => by cases h) (by kernel_rfl) (fun _ h => by cases h) fnLineMatchesSpec_row_tie rfl ⟨rfl, rfl⟩ (by kernel_rfl) rfl
    (fun f fn hf hfn => by
      obtain rfl : f = 3 := Option.some.inj ((show Tryd.prog.funcNamed Rows.fnLineMatchesSpecRow.func = some 3 by kernel_rfl).symm.trans hf) |>.symm
      obtain rfl : fn = Tryd.f3 := (Option.some.inj (Tryd.func3.symm.trans hfn)).symm
      exact ⟨by kernel_rfl, fun j t ht => by
        rw [Tryd.params3] at ht
        have hm : t ∈ [22, 3, 3, 4] := by simpa using Array.mem_of_getElem? ht
        have hall : ([22, 3, 3, 4].all fun u => !Tryd.prog.wantsStandIn u) = true := by kernel_rfl
        exact (show Tryd.prog.wantsStandIn t = false by simpa using List.all_eq_true.1 hall t hm)⟩)
    (by kernel_rfl)
end Go.Proofs.Qxb6002908aDoor
