/-
  parseTexts over a header that was built.
-/
import Derived.Test.Qxb6600273aDoorHdr
namespace Go.Proofs.Qxb6600273aDoor
open Go.Shelf Go.RowKit

theorem info9 : (Tryd.prog.info? 9).map (fun i => (i.zero, i.size, i.bytes)) = some (some (.string ⟨#[]⟩), 1, 16) := by kernel_rfl

theorem empty_of {V : ByteArray} (h : V.data.toList = []) : V = ⟨#[]⟩ := ByteArray.ext (Array.toList_inj.1 h)
theorem isEmpty_of {V : ByteArray} {a : UInt8} {l : List UInt8} (h : V.data.toList = a :: l) : V.toList.isEmpty = false := by
  rw [ByteArray.toList_eq, h]; rfl
theorem size_of {V : ByteArray} {l : List UInt8} (h : V.data.toList = l) : V.size = l.length := by rw [← h]; simp
theorem tail_of {V : ByteArray} {a : UInt8} {l : List UInt8} (h : V.data.toList = a :: l) : (V.extract 1 V.size).data.toList = l := by
  rw [Lib.extract_data, h]
  have := size_of h
  simp only [List.length_cons] at this
  simp only [List.drop_succ_cons, List.drop_zero]
  exact List.take_of_length_le (by omega)

variable {code agent date : ByteArray} {wd : Bool}

theorem item_head (hP : Par code agent) (t : ByteArray) (R : List UInt8) : ∃ b l, item code agent date wd t ++ R = b :: l ∧ b ≠ 44 := by
  obtain ⟨b, l, hb, _, _, h3⟩ := hP.head
  refine ⟨b, (l ++ 32 :: (agent.data.toList ++ 32 :: (quo t ++ dat date wd))) ++ R, ?_, h3⟩
  unfold item
  rw [hb]; rfl

/-- The loop's state: behind k texts. -/
def Mode0 (code agent date : ByteArray) (wd : Bool) (texts : List ByteArray) (k : Nat) (V : ByteArray) : Prop := V.data.toList = tl code agent date wd (texts.drop k)
def Mode1 (code agent date : ByteArray) (wd : Bool) (texts : List ByteArray) (k : Nat) (V V1 t : ByteArray) : Prop :=
  texts[k]? = some t ∧ V1.data.toList = item code agent date wd t ++ tl code agent date wd (texts.drop (k + 1)) ∧ (V = V1 ∨ V.data.toList = 32 :: V1.data.toList)

theorem Mode0.next {texts : List ByteArray} {k : Nat} {V : ByteArray} (h : Mode0 code agent date wd texts k V) (hk : k < texts.length) :
    ∃ t, texts[k]? = some t ∧ V.data.toList = 44 :: 32 :: (item code agent date wd t ++ tl code agent date wd (texts.drop (k + 1))) := by
  refine ⟨texts[k], List.getElem?_eq_getElem hk, ?_⟩
  rw [h, List.drop_eq_getElem_cons hk]
  simp only [tl, List.flatMap_cons, List.cons_append]

/-- What is left behind an item: nothing, or a comma first. -/
theorem tl_ends (l : List ByteArray) (r : ByteArray) (hr : r = mk (tl code agent date wd l)) : r.toList.isEmpty = true ∨ (r.toList.isEmpty = false ∧ ∃ h : 0 < r.size, (r[0]'h).toNat = 44) := by
  subst hr
  by_cases hl : l = []
  · subst hl
    exact Or.inl (by rw [ByteArray.toList_eq]; rfl)
  · obtain ⟨y, hy⟩ := tl_head (code := code) (agent := agent) (date := date) (wd := wd) l hl
    have h1 : (mk (tl code agent date wd l)).data.toList = 44 :: y := by rw [mk_list, hy]
    have h0 : 0 < (mk (tl code agent date wd l)).size := by rw [size_of h1]; simp
    exact Or.inr ⟨isEmpty_of h1, h0, by rw [at_of (i := 0) (a := []) h1 rfl h0]; rfl⟩

theorem Mode1.trim (hP : Par code agent) {texts : List ByteArray} {k : Nat} {V V1 t : ByteArray} (h : Mode1 code agent date wd texts k V V1 t) (w : World) :
    Calls Tryd.prog 11 #[.string V, .string ⟨#[32, 9]⟩] w fun e w' => e = .returned (.string V1) ∧ Below w.heap.size w w' := by
  obtain ⟨_, h1, h2⟩ := h
  have hsh : Sharp V1.data.toList := by rw [h1]; exact item_sharp hP _ _
  rcases h2 with rfl | h2
  · exact trim_keep V w hsh
  · exact trim_drop V V1 w h2 hsh
theorem Mode1.size {texts : List ByteArray} {k : Nat} {V V1 t : ByteArray} (h : Mode1 code agent date wd texts k V V1 t) : V1.size ≤ V.size := by
  obtain ⟨_, _, h2⟩ := h
  rcases h2 with rfl | h2
  · exact Nat.le_refl _
  · have := size_of h2
    simp at this
    omega
theorem Mode1.head (hP : Par code agent) {texts : List ByteArray} {k : Nat} {V V1 t : ByteArray} (h : Mode1 code agent date wd texts k V V1 t) : V1.toList.isEmpty = false ∧ ∃ h0 : 0 < V1.size, (((V1[0]'h0).toNat : Int) == 44) = false := by
  obtain ⟨_, h1, _⟩ := h
  obtain ⟨b, l, hb, hne⟩ := item_head (date := date) (wd := wd) hP t (tl code agent date wd (texts.drop (k + 1)))
  rw [hb] at h1
  have h0 : 0 < V1.size := by rw [size_of h1]; simp
  refine ⟨isEmpty_of h1, h0, ?_⟩
  rw [at_of (i := 0) (a := []) h1 rfl h0, beq_eq_false_iff_ne]
  intro e
  exact hne (UInt8.toNat_inj.1 (by have : b.toNat = 44 := by omega
                                   rw [this]; rfl))

set_option maxHeartbeats 4000000 in
set_option maxRecDepth 100000 in
theorem parse_ok (hP : Par code agent) (hc3 : code.size = 3) (hcd : ∀ (i : Nat) (hi : i < code.size), 48 ≤ (code[i]).toNat ∧ (code[i]).toNat ≤ 57) (texts : List ByteArray) (n : Nat) (x : ByteArray) (w : World)
    (hx : x.data.toList = hdr code agent date wd texts) (hlen : x.size ≤ 35184372088832) (hnn : texts.length = n) (hn : n ≤ 65536) :
    Calls Tryd.prog 10 #[.string x] w fun e w' => ∃ p c, e = .returned (.tuple #[.slice p n c, .bool true]) ∧ SAt w' p texts ∧ Below w.heap.size w w' := by
  obtain ⟨i0, hi, hz0, hz1, hz2⟩ := info_parts info9
  have hwc := fun w' => warn_ok code w' hc3 hcd
  have HN : Hid (texts.length = n) := hnn
  have HX : Hid (x.data.toList = hdr code agent date wd texts) := hx
  have HPr : Hid (Par code agent) := hP
  have hag : agent.toList.isEmpty = false := by
    cases hl : agent.data.toList with
    | nil => exact absurd (by rw [size_of hl]; rfl) hP.agent0
    | cons a l => exact isEmpty_of hl
  clear hcd hc3 hx hnn hP
  go_enter Tryd.func10, Tryd.ntmps10
  go_wp2_with fail
  go_loopg [0, 4] (2 * n + 1) (fun g v tv wx => ∃ (k : Nat) (V : ByteArray), k ≤ n ∧ v = .string V ∧ V.size ≤ 35184372088832 ∧ Hid (Own w wx w.heap.size 9 tv ((texts.take k).map sv)) ∧
    ((2 * (n - k) + 1 ≤ g ∧ Hid (Mode0 code agent date wd texts k V)) ∨ (k < n ∧ 2 * (n - k) ≤ g ∧ ∃ V1 t, Hid (Mode1 code agent date wd texts k V V1 t))))
  case atStart =>
    refine ⟨0, x, by omega, rfl, hlen, Own.nil _ _ _ (Nat.le_refl _), ?_⟩
    cases texts with
    | nil => exact Or.inl ⟨by omega, HX⟩
    | cons t l =>
      have := HN.out
      simp only [List.length_cons] at this
      exact Or.inr ⟨by omega, by omega, x, t, rfl, HX.out, Or.inl rfl⟩
  case round =>
    obtain ⟨k, V, hk, rfl, hV, HO, hmode⟩ := hrel
    rcases hmode with ⟨hg, HM⟩ | ⟨hkn, hg, V1, t, HM⟩
    · by_cases hkn : k < n
      · obtain ⟨t, ht, hVl⟩ := HM.out.next (by rw [HN.out]; exact hkn)
        have htr := fun w' => trim_keep V w' (by rw [hVl]; intro b hb; cases hb; decide)
        have hE := isEmpty_of hVl
        have hV0 : 0 < V.size := by rw [size_of hVl]; simp
        have h44 : (V[0]'hV0).toNat = 44 := by rw [at_of (i := 0) (a := []) hVl rfl hV0]; rfl
        have hsz : (V.extract 1 V.size).size ≤ 35184372088832 := by
          have e1 := size_of (tail_of hVl)
          have e2 := size_of hVl
          simp only [List.length_cons] at e1 e2
          omega
        have HM1 : Hid (Mode1 code agent date wd texts k (V.extract 1 V.size) (mk (item code agent date wd t ++ tl code agent date wd (texts.drop (k + 1)))) t) := ⟨ht, mk_list _, Or.inr (by rw [tail_of hVl, mk_list])⟩
        clear hVl ht
        go_wp2_with fail
        refine (htr _).mono ?_
        rintro e w1 ⟨rfl, hb⟩
        have HO1 : Hid (Own w w1 w.heap.size 9 u4 ((texts.take k).map sv)) := HO.out.kept hb
        clear hb htr HO HM
        go_wp2
        go_roundg (gk - 1)
        case measure => omega
        case rel => exact ⟨k, _, by omega, rfl, hsz, HO1, Or.inr ⟨hkn, by omega, _, _, HM1⟩⟩
      · have hVe : V = ⟨#[]⟩ := by
          apply empty_of
          rw [HM.out, List.drop_eq_nil_of_le (by rw [HN.out]; omega)]; rfl
        subst hVe
        have htr := fun w' => trim_keep ⟨#[]⟩ w' (fun b hb => by cases hb)
        have HO0 : Hid (Own w wr w.heap.size 9 u4 (texts.map sv)) := by
          have e := HO.out
          rw [List.take_of_length_le (by rw [HN.out]; omega)] at e
          exact e
        clear HO
        go_wp2_with fail
        refine (htr _).mono ?_
        rintro e w1 ⟨rfl, hb⟩
        have HO1 : Hid (Own w w1 w.heap.size 9 u4 (texts.map sv)) := HO0.out.kept hb
        clear hb htr HO0 HM
        go_wp2
        go_ret2
        obtain ⟨⟨p, c, hv⟩, hf⟩ := HO1.out.form
        have hlm : (texts.map sv).length = n := by rw [List.length_map, HN.out]
        refine ⟨p, c, by rw [hv, hlm]; rfl, fun hne => ?_, HO1.out.below⟩
        obtain ⟨g, cap, hv2, _, hcs⟩ := hf (by simpa using hne)
        rw [hv] at hv2
        simp only [Value.slice.injEq] at hv2
        refine ⟨g, 0, hv2.1, fun i s hs => ?_⟩
        rw [Nat.zero_add]
        exact hcs i _ (by rw [List.getElem?_map, hs]; rfl)
    · have htr := fun w' => HM.out.trim HPr.out w'
      have hV1 : V1.size ≤ 35184372088832 := Nat.le_trans HM.out.size hV
      obtain ⟨hE1, h01, h441⟩ := HM.out.head HPr.out
      obtain ⟨ht, hVl, _⟩ := HM.out
      have HTk : Hid ((texts.take (k + 1)).map sv = (texts.take k).map sv ++ [sv t]) := by
        show _ = _
        rw [List.take_add_one, ht]; simp
      have hLk : ((texts.take k).map sv).length ≤ 65536 := by
        rw [List.length_map, List.length_take, HN.out]; omega
      have HLk : Hid (((texts.take k).map sv).length ≤ 65536) := hLk
      clear hLk
      obtain ⟨r3, hr3⟩ : ∃ r3, r3 = mk (dat date wd ++ tl code agent date wd (texts.drop (k + 1))) := ⟨_, rfl⟩
      obtain ⟨r2, hr2⟩ : ∃ r2, r2 = mk (quo t ++ (dat date wd ++ tl code agent date wd (texts.drop (k + 1)))) := ⟨_, rfl⟩
      obtain ⟨r1, hr1⟩ : ∃ r1, r1 = mk (agent.data.toList ++ 32 :: (quo t ++ (dat date wd ++ tl code agent date wd (texts.drop (k + 1))))) := ⟨_, rfl⟩
      have k1 := item_cuts HPr.out t _ V1 hVl
      rw [← hr1] at k1
      have k2 := agent_cuts HPr.out (quo t ++ (dat date wd ++ tl code agent date wd (texts.drop (k + 1))))
      rw [← hr1, ← hr2] at k2
      have k3 := quo_quoted t (dat date wd ++ tl code agent date wd (texts.drop (k + 1)))
      rw [← hr2, ← hr3] at k3
      have z1 := k1.size
      have z2 := k2.size
      have z3 := k3.size
      have hc1 := fun w' => cut_any V1 code r1 w' k1 (by omega)
      have hc2 := fun w' => cut_any r1 agent r2 w' k2 (by omega)
      have hu := fun w' => unquote_any r2 t r3 w' k3 (by omega)
      have hr3s : r3.size ≤ 35184372088832 := by omega
      have HR3 : Hid (r3 = mk (dat date wd ++ tl code agent date wd (texts.drop (k + 1)))) := hr3
      clear z1 z2 z3 k1 k2 k3 hr1 hr2 hr3 hVl ht
      go_wp2_with fail
      refine (htr _).mono ?_
      rintro e w1 ⟨rfl, hb⟩
      have HO1 : Hid (Own w w1 w.heap.size 9 u4 ((texts.take k).map sv)) := HO.out.kept hb
      clear hb htr HO HM
      go_wp2_with fail
      refine (hc1 _).mono ?_
      rintro e w2 ⟨rfl, hb⟩
      have HO2 : Hid (Own w w2 w.heap.size 9 u4 ((texts.take k).map sv)) := HO1.out.kept hb
      clear hb hc1 HO1
      go_wp2_with fail
      refine (hc2 _).mono ?_
      rintro e w3 ⟨rfl, hb⟩
      have HO3 : Hid (Own w w3 w.heap.size 9 u4 ((texts.take k).map sv)) := HO2.out.kept hb
      clear hb hc2 HO2
      go_wp2_with fail
      refine (hu _).mono ?_
      rintro e w4 ⟨rfl, hb⟩
      have HO4 : Hid (Own w w4 w.heap.size 9 u4 ((texts.take k).map sv)) := HO3.out.kept hb
      clear hb hu HO3
      go_wp2_with fail
      refine (hwc _).mono ?_
      rintro e w5 ⟨rfl, hw5⟩
      have HO5 : Hid (Own w w5 w.heap.size 9 u4 ((texts.take k).map sv)) := by rw [hw5]; exact HO4
      clear hw5 HO4
      obtain ⟨XS, hXS⟩ : ∃ XS, XS = (texts.take k).map sv := ⟨_, rfl⟩
      rw [← hXS] at HTk HLk HO5
      clear hXS
      go_wp2_with (at_builtin; refine wpList_append_own _ rfl (.tmp 62) (.tmp 64) 22 rfl w.heap.size 9 i0 (.string ⟨#[]⟩) 1 16 Tryd.underlying22 hi hz0 hz1 hz2 rfl (by decide) _ _ _ rfl (HO5.out.own.alloc _) ⟨w5.heap.size, 0, none⟩ 1 1 [.string t] rfl rfl ?c1 ?c2 ?c3 ?c4 ?c5 ?_)
      case c1 =>
        intro j u hj
        match j, hj with
        | 0, hj => simp at hj; subst hj; simp [Addr.add]
      case c2 => intro u hu; simp at hu; subst hu; rfl
      case c3 => have := HLk.out; unfold maxLen; omega
      case c4 => have := HLk.out; omega
      case c5 => have := HO5.out.size; simp; omega
      intro v6 w6 hown hgrow _
      have HO6 : Hid (Own w w6 w.heap.size 9 v6 ((texts.take (k + 1)).map sv)) := by
        rw [HTk.out]
        exact HO5.out.grow ((Below.refl _ _).alloc HO5.out.size _) hown rfl hgrow
      clear hown hgrow HO5 HTk HLk
      cases wd with
      | false =>
        have hr3 : r3 = mk (tl code agent date false (texts.drop (k + 1))) := HR3.out
        have htr3 := fun w' => trim_keep r3 w' (by rw [hr3, mk_list]; exact tl_sharp _)
        have hpf := fun w' => prefix_any r3 w' (by omega)
        have hnq : (r3.data.toList.head? == some (34 : UInt8)) = false := by rw [hr3]; exact tl_noquote _
        rw [hnq] at hpf
        have HM0 : Hid (Mode0 code agent date false texts (k + 1) r3) := by
          show _ = _
          rw [hr3, mk_list]
        have hend := tl_ends _ r3 hr3
        clear hnq hr3 HR3
        go_wp2_with fail
        refine (htr3 _).mono ?_
        rintro e w7 ⟨rfl, hb⟩
        have HO7 : Hid (Own w w7 w.heap.size 9 v6 ((texts.take (k + 1)).map sv)) := HO6.out.kept hb
        clear hb htr3 HO6
        go_wp2_with fail
        refine (hpf _).mono ?_
        rintro e w8 ⟨rfl, hw8⟩
        have HO8 : Hid (Own w w8 w.heap.size 9 v6 ((texts.take (k + 1)).map sv)) := by rw [hw8]; exact HO7
        clear hw8 HO7 hpf
        rcases hend with hend | ⟨hend, hr0, hr44⟩
        all_goals
          go_wp2
          go_roundg (gk - 1)
          case measure => omega
          case rel => exact ⟨k + 1, r3, by omega, rfl, hr3s, HO8, Or.inl ⟨by omega, HM0⟩⟩
      | true =>
        obtain ⟨r4, hr4⟩ : ∃ r4, r4 = mk (quo date ++ tl code agent date true (texts.drop (k + 1))) := ⟨_, rfl⟩
        obtain ⟨r5, hr5⟩ : ∃ r5, r5 = mk (tl code agent date true (texts.drop (k + 1))) := ⟨_, rfl⟩
        have hr34 : r3.data.toList = 32 :: r4.data.toList := by
          rw [HR3.out, hr4, mk_list, mk_list]; rfl
        have htr3 := fun w' => trim_drop r3 r4 w' hr34 (by rw [hr4, mk_list]; exact quo_sharp _ _)
        have z4 := size_of hr34
        have z4' : r4.data.toList.length = r4.size := by simp
        simp only [List.length_cons] at z4
        have hpf := fun w' => prefix_any r4 w' (by omega)
        have hnq : (r4.data.toList.head? == some (34 : UInt8)) = true := by rw [hr4]; exact quo_isquote _ _
        rw [hnq] at hpf
        have k4 := quo_quoted date (tl code agent date true (texts.drop (k + 1)))
        rw [← hr4, ← hr5] at k4
        have z5 := k4.size
        have hu4 := fun w' => unquote_any r4 date r5 w' k4 (by omega)
        have hr5s : r5.size ≤ 35184372088832 := by omega
        have htr5 := fun w' => trim_keep r5 w' (by rw [hr5, mk_list]; exact tl_sharp _)
        have HM0 : Hid (Mode0 code agent date true texts (k + 1) r5) := by
          show _ = _
          rw [hr5, mk_list]
        have hend := tl_ends _ r5 hr5
        clear hnq hr34 hr4 hr5 HR3 z4 z4' z5 k4
        go_wp2_with fail
        refine (htr3 _).mono ?_
        rintro e w7 ⟨rfl, hb⟩
        have HO7 : Hid (Own w w7 w.heap.size 9 v6 ((texts.take (k + 1)).map sv)) := HO6.out.kept hb
        clear hb htr3 HO6
        go_wp2_with fail
        refine (hpf _).mono ?_
        rintro e w8 ⟨rfl, hw8⟩
        have HO8 : Hid (Own w w8 w.heap.size 9 v6 ((texts.take (k + 1)).map sv)) := by rw [hw8]; exact HO7
        clear hw8 HO7 hpf
        go_wp2_with fail
        refine (hu4 _).mono ?_
        rintro e w9 ⟨rfl, hb⟩
        have HO9 : Hid (Own w w9 w.heap.size 9 v6 ((texts.take (k + 1)).map sv)) := HO8.out.kept hb
        clear hb hu4 HO8
        go_wp2_with fail
        refine (htr5 _).mono ?_
        rintro e w10 ⟨rfl, hb⟩
        have HO10 : Hid (Own w w10 w.heap.size 9 v6 ((texts.take (k + 1)).map sv)) := HO9.out.kept hb
        clear hb htr5 HO9
        rcases hend with hend | ⟨hend, hr0, hr44⟩
        all_goals
          go_wp2
          go_roundg (gk - 1)
          case measure => omega
          case rel => exact ⟨k + 1, r5, by omega, rfl, hr5s, HO10, Or.inl ⟨by omega, HM0⟩⟩
end Go.Proofs.Qxb6600273aDoor
