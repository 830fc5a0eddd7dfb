/-
  unquote, at a string that opens with a quoted text.
-/
import Derived.Test.Qxb6600273aDoorCut
import Derived.Deep.LoopGhost
import Derived.Deep.RegionWith
import Derived.BigRegion
import Derived.WalkSmall
namespace Go.Proofs.Qxb6600273aDoor
open Go.Shelf Go.RowKit

def spec (b : UInt8) : Bool := b == 34 || b == 92
def e1 (b : UInt8) : List UInt8 := if spec b then [92, b] else [b]
def esc (l : List UInt8) : List UInt8 := l.flatMap e1

theorem esc_append (a b : List UInt8) : esc (a ++ b) = esc a ++ esc b := by simp [esc]
theorem esc_take {l : List UInt8} {k : Nat} {c : UInt8} (h : l[k]? = some c) : esc (l.take (k + 1)) = esc (l.take k) ++ e1 c := by
  rw [List.take_add_one, h, esc_append]
  simp [esc]
theorem esc_split {l : List UInt8} {k : Nat} {c : UInt8} (h : l[k]? = some c) : esc l = esc (l.take k) ++ (e1 c ++ esc (l.drop (k + 1))) := by
  have e : l = l.take (k + 1) ++ l.drop (k + 1) := (List.take_append_drop _ _).symm
  conv => lhs; rw [e, esc_append, esc_take h]
  simp
theorem esc_len (l : List UInt8) : (esc l).length ≤ 2 * l.length := by
  unfold esc
  induction l with
  | nil => simp
  | cons a l ih =>
    have : (e1 a).length ≤ 2 := by unfold e1; split <;> simp
    simp only [List.flatMap_cons, List.length_append, List.length_cons]
    omega
theorem esc_len' (l : List UInt8) : l.length ≤ (esc l).length := by
  unfold esc
  induction l with
  | nil => simp
  | cons a l ih =>
    have : 1 ≤ (e1 a).length := by unfold e1; split <;> simp
    simp only [List.flatMap_cons, List.length_append, List.length_cons]
    omega

/-- The string s: a quoted text t, then r. -/
def Quoted (s t r : ByteArray) : Prop := s.data.toList = 34 :: (esc t.data.toList ++ 34 :: r.data.toList)

/-- The place of the k-th byte of the text in the quoted one. -/
def qp (t : ByteArray) (k : Nat) : Nat := 1 + (esc (t.data.toList.take k)).length

theorem at_of {s : ByteArray} {l a : List UInt8} {c : UInt8} {i : Nat} (h : s.data.toList = a ++ c :: l) (hi : i = a.length) (hs : i < s.size) : (s[i]'hs) = c := by
  have h1 : s.data.toList[i]? = some c := by rw [h, hi, List.getElem?_append_right (Nat.le_refl _)]; simp
  have h2 : s.data.toList[i]? = some (s[i]'hs) := by
    rw [List.getElem?_eq_getElem (by simpa using hs)]; rfl
  rw [h2] at h1
  exact Option.some.inj h1

theorem Quoted.plain {s t r : ByteArray} (h : Quoted s t r) {k : Nat} {c : UInt8} (hc : t.data.toList[k]? = some c) (hsp : spec c = false) :
    s.data.toList = (34 :: esc (t.data.toList.take k)) ++ c :: (esc (t.data.toList.drop (k + 1)) ++ 34 :: r.data.toList) := by
  rw [h, esc_split hc]; simp [e1, hsp]
theorem Quoted.special {s t r : ByteArray} (h : Quoted s t r) {k : Nat} {c : UInt8} (hc : t.data.toList[k]? = some c) (hsp : spec c = true) :
    s.data.toList = (34 :: esc (t.data.toList.take k)) ++ 92 :: c :: (esc (t.data.toList.drop (k + 1)) ++ 34 :: r.data.toList) := by
  rw [h, esc_split hc]; simp [e1, hsp]
theorem Quoted.last {s t r : ByteArray} (h : Quoted s t r) : s.data.toList = (34 :: esc t.data.toList) ++ 34 :: r.data.toList := by
  rw [h]; simp
theorem Quoted.size {s t r : ByteArray} (h : Quoted s t r) : s.size = 2 + (esc t.data.toList).length + r.size := by
  have := congrArg List.length h
  simp at this
  omega
theorem qp_plain {t : ByteArray} {k : Nat} {c : UInt8} (hc : t.data.toList[k]? = some c) (hsp : spec c = false) : qp t (k + 1) = qp t k + 1 := by
  unfold qp; rw [esc_take hc]; simp [e1, hsp]; omega
theorem qp_special {t : ByteArray} {k : Nat} {c : UInt8} (hc : t.data.toList[k]? = some c) (hsp : spec c = true) : qp t (k + 1) = qp t k + 1 + 1 := by
  unfold qp; rw [esc_take hc]; simp [e1, hsp]; omega
theorem Quoted.rest {s t r : ByteArray} (h : Quoted s t r) {i : Nat} (hi : i = 1 + (esc t.data.toList).length) : s.extract (i + 1) s.size = r := by
  apply ByteArray.ext
  apply Array.toList_inj.1
  have hs := h.size
  have hr : r.data.toList.length = r.size := by simp
  rw [Lib.extract_data, h.last]
  have e : i = (34 :: esc t.data.toList).length := by simp; omega
  rw [e, ← List.drop_drop, List.drop_append_of_le_length (Nat.le_refl _), List.drop_length, List.nil_append]
  simp only [List.drop_succ_cons, List.drop_zero]
  exact List.take_of_length_le (by omega)

theorem spec_ne {c : UInt8} (h : spec c = false) : ((c.toNat : Int) == 34) = false ∧ ((c.toNat : Int) == 92) = false := by
  unfold spec at h
  simp only [Bool.or_eq_false_iff, beq_eq_false_iff_ne] at h
  constructor <;> rw [beq_eq_false_iff_ne]
  · intro e; exact h.1 (UInt8.toNat_inj.1 (by have : c.toNat = 34 := by omega
                                              rw [this]; rfl))
  · intro e; exact h.2 (UInt8.toNat_inj.1 (by have : c.toNat = 92 := by omega
                                              rw [this]; rfl))

set_option maxHeartbeats 2000000 in
set_option maxRecDepth 100000 in
theorem unquote_any (s t r : ByteArray) (w : World) (h : Quoted s t r) (hs : s.size ≤ 70368744177664) :
    Calls Tryd.prog 13 #[.string s] w fun e w' => e = .returned (.tuple #[.string t, .string r, .bool true]) ∧ Below w.heap.size w w' := by
  have hpf := prefix_any s w (by omega)
  have hq : (s.data.toList.head? == some (34 : UInt8)) = true := by rw [h]; simp
  rw [hq] at hpf
  have HQ : Hid (Quoted s t r) := h
  have hts : t.size + 1 < s.size := by
    have h1 := h.size
    have h2 := esc_len' t.data.toList
    have h3 : t.data.toList.length = t.size := by simp
    omega
  have HSz : Hid (s.size = 2 + (esc t.data.toList).length + r.size) := h.size
  clear h hq
  go_enter Tryd.func13, Tryd.ntmps13
  go_wp2_with fail
  refine hpf.mono ?_
  rintro e w ⟨rfl, rfl⟩
  clear hpf
  go_wp2_with fail
  go_loopg [6] t.size (fun g i wx => ∃ k p : Nat, k ≤ t.size ∧ t.size ≤ k + g ∧ i = .int .i64 p ∧ p < s.size ∧ Hid (p = qp t k) ∧ Hid (Lib.IsBuilder 46 5 w.heap.size w.heap.size (Lib.byteCells (t.data.toList.take k)) wx ∧ Below w.heap.size w wx ∧ w.heap.size < wx.heap.size))
  case atStart => exact ⟨0, 1, by omega, by omega, rfl, by omega, rfl, Lib.fresh_isBuilder 46 5 w, (Below.refl _ _).alloc (Nat.le_refl _) _, by simp⟩
  case round =>
    obtain ⟨k, p, hk, hg, rfl, hp, HP, HB⟩ := hrel
    by_cases hlt : k < t.size
    · obtain ⟨c, hc⟩ : ∃ c, t.data.toList[k]? = some c := ⟨_, List.getElem?_eq_getElem (by simpa using hlt)⟩
      have HC : Hid (t.data.toList[k]? = some c) := hc
      have hkt : (t.data.toList.take k).length ≤ t.size := by rw [List.length_take]; omega
      have HT : Hid (Lib.byteCells (t.data.toList.take (k + 1)) = Lib.byteCells (t.data.toList.take k) ++ [.int .u8 (c.toNat : Int)]) := by
        show _ = _
        rw [List.take_add_one, hc, Lib.byteCells_append]; rfl
      have HLn : Hid ((Lib.byteCells (t.data.toList.take k)).length + 1 ≤ 140737488355328) := by
        show _ ≤ _
        rw [Lib.byteCells_length]; omega
      clear hkt
      cases hsp : spec c
      · have hpl := HQ.out.plain hc hsp
        have hpe : p = (34 :: esc (t.data.toList.take k)).length := by rw [HP.out]; unfold qp; simp; omega
        have hat := at_of hpl hpe hp
        have hx : (s[p]'hp).toNat = c.toNat := by rw [hat]
        obtain ⟨n1, n2⟩ := spec_ne hsp
        have hn := qp_plain hc hsp
        have HP2 : Hid (p + 1 = qp t (k + 1)) := by rw [HP.out]; exact hn.symm
        have hp2 : p + 1 < s.size := by
          have e := congrArg List.length hpl
          simp only [List.length_append, List.length_cons] at e
          have e2 : s.data.toList.length = s.size := by simp
          rw [List.length_cons] at hpe
          omega
        clear hpl hpe hat hn hc hsp
        go_wp2_with fail
        refine (writeByte_any w.heap.size w.heap.size _ (c.toNat : Int) _ HB.out.1 HLn.out (by have := HB.out.2.2; omega)).mono ?_
        rintro e w1 ⟨rfl, hb1, hbl⟩
        rw [← HT.out] at hb1
        have HB2 : Hid (Lib.IsBuilder 46 5 w.heap.size w.heap.size (Lib.byteCells (t.data.toList.take (k + 1))) w1 ∧ Below w.heap.size w w1 ∧ w.heap.size < w1.heap.size) := ⟨Or.inr hb1, HB.out.2.1.trans hbl, by have := hbl.size; have := HB.out.2.2; omega⟩
        clear hb1 hbl HB HT
        go_wp2
        go_roundg (gk - 1)
        case measure => omega
        case rel => exact ⟨k + 1, p + 1, by omega, by omega, by go_num, hp2, HP2, HB2⟩
      · have hpl := HQ.out.special hc hsp
        have hpe : p = (34 :: esc (t.data.toList.take k)).length := by rw [HP.out]; unfold qp; simp; omega
        have hat := at_of hpl hpe hp
        have hx : (s[p]'hp).toNat = 92 := by rw [hat]; rfl
        have hn := qp_special hc hsp
        have HP2 : Hid (p + 1 + 1 = qp t (k + 1)) := by rw [HP.out]; exact hn.symm
        have hp2 : p + 1 + 1 < s.size := by
          have e := congrArg List.length hpl
          simp only [List.length_append, List.length_cons] at e
          have e2 : s.data.toList.length = s.size := by simp
          rw [List.length_cons] at hpe
          omega
        have hp1 : p + 1 < s.size := by omega
        have hpl2 : s.data.toList = ((34 :: esc (t.data.toList.take k)) ++ [92]) ++ c :: (esc (t.data.toList.drop (k + 1)) ++ 34 :: r.data.toList) := by rw [hpl]; simp
        have hat2 := at_of (i := p + 1) hpl2 (by rw [List.length_append, ← hpe]; rfl) hp1
        have hx2 : (s[p + 1]'hp1).toNat = c.toNat := by rw [hat2]
        have hne : (((p : Int) + 1) == (s.size : Int)) = false := by rw [beq_eq_false_iff_ne]; omega
        clear hpl hpl2 hpe hat hat2 hn hc hsp
        go_wp2_with fail
        refine (writeByte_any w.heap.size w.heap.size _ (c.toNat : Int) _ HB.out.1 HLn.out (by have := HB.out.2.2; omega)).mono ?_
        rintro e w1 ⟨rfl, hb1, hbl⟩
        rw [← HT.out] at hb1
        have HB2 : Hid (Lib.IsBuilder 46 5 w.heap.size w.heap.size (Lib.byteCells (t.data.toList.take (k + 1))) w1 ∧ Below w.heap.size w w1 ∧ w.heap.size < w1.heap.size) := ⟨Or.inr hb1, HB.out.2.1.trans hbl, by have := hbl.size; have := HB.out.2.2; omega⟩
        clear hb1 hbl HB HT
        go_wp2
        go_roundg (gk - 1)
        case measure => omega
        case rel => exact ⟨k + 1, p + 1 + 1, by omega, by omega, by go_num, hp2, HP2, HB2⟩
    · have hkt : k = t.size := by omega
      have e0 : t.data.toList.length = t.size := by simp
      have htk : t.data.toList.take k = t.data.toList := List.take_of_length_le (by omega)
      have hpe : p = 1 + (esc t.data.toList).length := by rw [HP.out]; unfold qp; rw [htk]
      have hat := at_of HQ.out.last (by rw [hpe]; simp; omega) hp
      have hx : (s[p]'hp).toNat = 34 := by rw [hat]; rfl
      have HR : Hid (s.extract (p + 1) s.size = r) := HQ.out.rest hpe
      have HB1 : Hid (Lib.IsBuilder 46 5 w.heap.size w.heap.size (Lib.byteCells t.data.toList) wr) := by
        have := HB.out.1; rw [htk] at this; exact this
      have hw1 : IntKind.i64.wrap ((p : Int) + 1) = (p : Int) + 1 := by rw [IntKind.wrap_i64]; omega
      have ha2 : (p : Int) + 1 ≤ (s.size : Int) := by omega
      have ha3 : (0 : Int) ≤ (p : Int) + 1 := by omega
      have ha4 : ((p : Int) + 1).toNat = p + 1 := by omega
      clear hkt htk hpe hat e0
      have HB2 := HB.out.2
      go_wp2_with fail
      go_region_with (go_at_call 21; refine (string_any w.heap.size w.heap.size t.data.toList _ (by exact HB1.out) (by have := HB2.2; exact Nat.le_of_lt this)).mono ?_; rintro e w1 ⟨rfl, hb1⟩)
      all_goals
        have HB3 : Hid (Below w.heap.size w w1) := HB2.1.drew.trans hb1
        clear hb1
        go_wp2
        rw [HR.out]
        exact bodyPost_ret (v := .tuple #[.string t, .string r, .bool true]) (by simp [results, Tryd.results13, go_sem]) rfl ⟨rfl, HB3.out⟩
end Go.Proofs.Qxb6600273aDoor
