/-
  A name out of its wire form, and its labels.
-/
import Derived.Test.Qxb6003357aDoorWire
import Derived.Deep.AppendLies
import Derived.Deep.RegionLaw
import Derived.Deep.RegionHeldLaw
import Derived.BigRegion
namespace Go.Proofs.Qxb6003357aDoor
open Go.RowKit

theorem name_any (s : ByteArray) (w : World) :
    Calls Tryd.prog 12 #[.string s] w fun e w' => e = .returned (.agg #[.string s]) ∧ Below w.heap.size w w' := by
  go_enter Tryd.func12, Tryd.ntmps12
  go_wp2
  exact bodyPost_ret (v := .agg #[.string s]) (by simp [results, Tryd.results12, go_sem]) rfl ⟨rfl, (Below.refl _ _).alloc (Nat.le_refl _) _⟩

/-- Where the k-th label begins. -/
def posF (ls : List ByteArray) (k : Nat) : Nat := (wireF (ls.take k)).length
theorem posF_zero (ls : List ByteArray) : posF ls 0 = 0 := rfl
theorem posF_succ {ls : List ByteArray} {k : Nat} {s : ByteArray} (h : ls[k]? = some s) : posF ls (k + 1) = posF ls k + (1 + s.size) := by
  unfold posF
  rw [wireF_take h]
  have : s.data.toList.length = s.size := by simp
  simp only [List.length_append, List.length_cons]
  omega
theorem wireF_append (a b : List ByteArray) : wireF (a ++ b) = wireF a ++ wireF b := by simp [wireF]
theorem wire_split {ls : List ByteArray} {k : Nat} {s : ByteArray} (h : ls[k]? = some s) : wireF ls = wireF (ls.take k) ++ (UInt8.ofNat s.size :: s.data.toList ++ wireF (ls.drop (k + 1))) := by
  have e : ls = ls.take (k + 1) ++ ls.drop (k + 1) := (List.take_append_drop _ _).symm
  conv => lhs; rw [e, wireF_append, wireF_take h]
  simp
theorem posF_lt {ls : List ByteArray} {k : Nat} {s : ByteArray} (h : ls[k]? = some s) : posF ls k + 1 + s.size ≤ (wireF ls).length := by
  rw [wire_split h]
  have : s.data.toList.length = s.size := by simp
  simp only [List.length_append, List.length_cons, posF]
  omega
theorem wire_at {ls : List ByteArray} {k : Nat} {s : ByteArray} (h : ls[k]? = some s) : (wireF ls)[posF ls k]? = some (UInt8.ofNat s.size) := by
  rw [wire_split h]
  unfold posF
  rw [List.getElem?_append_right (Nat.le_refl _)]
  simp
theorem wire_cut {ls : List ByteArray} {k : Nat} {s : ByteArray} (h : ls[k]? = some s) : ((wireF ls).drop (posF ls k + 1)).take s.size = s.data.toList := by
  rw [wire_split h]
  unfold posF
  have e : s.data.toList.length = s.size := by simp
  rw [← List.drop_drop, List.drop_append_of_le_length (Nat.le_refl _), List.drop_length, List.nil_append]
  simp only [List.cons_append, List.drop_succ_cons, List.drop_zero]
  rw [List.take_append_of_le_length (by omega), List.take_of_length_le (by omega)]
theorem posF_end {ls : List ByteArray} {k : Nat} (h : ls.length ≤ k) : posF ls k = (wireF ls).length := by
  unfold posF
  rw [List.take_of_length_le h]

theorem wire_extract {ls : List ByteArray} {k : Nat} {s : ByteArray} (h : ls[k]? = some s) (p : Nat) (hp : p = posF ls k) : (ByteArray.mk (wireF ls).toArray).extract (p + 1) (p + 1 + s.size) = s := by
  subst hp
  apply ByteArray.ext
  apply Array.toList_inj.1
  rw [Lib.extract_data]
  show ((wireF ls).drop _).take _ = _
  rw [show posF ls k + 1 + s.size - (posF ls k + 1) = s.size by omega]
  exact wire_cut h

abbrev sv (s : ByteArray) : Value := .string s

/-- append of one string, as a step of a region that draws. -/
theorem step_push {ops : Array Oper} {o : Oper} {a : Act} {K : Act → World → Prop} {Q : Exit → Act → World → Prop} {E : Prop} {w0 wr : World} {B : Nat} {v : Value} {xs : List Value} (h : Own w0 wr B 9 v xs) (hxs : xs.length ≤ 5) (x : ByteArray)
    (hgd : o.guard = none) (p q : Operand) (ho : o.op = .call { callee := .builtin .append, args := #[p, q], argTypes := #[22, 22] }) (hp : a.eval p = v) (hq : a.eval q = .slice (some ⟨wr.heap.size, 0, none⟩) 1 1)
    (hK : ∀ v' w1, Hid (Own w0 w1 B 9 v' (xs ++ [sv x])) → K (a.put o.dst v') w1) :
    if Region.wanted o (yielded ops a.tmps) = true then Oper.wp Tryd.prog o a (wr.alloc (Obj.cells #[.string x] 9)).drew K Q else E := by
  obtain ⟨i0, hi, hz0, hz1, hz2⟩ := info_parts info9
  refine step_append_lies _ hgd p q 22 ho B 9 i0 (.string ⟨#[]⟩) 1 16 Tryd.underlying22 hi hz0 hz1 hz2 rfl (by decide) v xs.length xs hp (h.own.alloc _) ⟨wr.heap.size, 0, none⟩ 1 1 [.string x] hq rfl ?_ (by intro u hu; simp at hu; subst hu; rfl) (by decide) (by unfold maxLen; omega) (by omega) (by have := h.size; simp; omega) _ rfl ?_
  · intro j u hj
    match j, hj with
    | 0, hj => simp at hj; subst hj; simp [Addr.add]
  · intro g cap w1 hown hgrow _ _
    exact hK _ _ (h.push (o := Obj.cells #[.string x] 9) hown rfl ⟨hgrow.os, hgrow.tape, hgrow.output, hgrow.size, hgrow.block⟩)

set_option maxHeartbeats 2000000 in
set_option maxRecDepth 100000 in
theorem labels_any (ls : List ByteArray) (x : ByteArray) (w : World) (hx : x = ⟨(wireF ls).toArray⟩) (hs : ∀ (i : Nat) (s : ByteArray), ls[i]? = some s → s.size ≤ 63) (hn : ls.length ≤ 5) (hne : ls ≠ []) :
    Calls Tryd.prog 24 #[.agg #[.string x]] w fun e w' => ∃ p c, e = .returned (.slice p ls.length c) ∧ SAt w' p ls ∧ Below w.heap.size w w' := by
  obtain ⟨i0, hi, hz0, hz1, hz2⟩ := info_parts info9
  obtain ⟨n, HL0⟩ : ∃ n, n = ls.length := ⟨_, rfl⟩
  have HL : Hid (n = ls.length) := HL0
  have HX : Hid (x = ⟨(wireF ls).toArray⟩) := hx
  have hxs : x.size = (wireF ls).length := by rw [hx]; rfl
  have hx320 : x.size ≤ 320 := by have := wireF_len ls hs; omega
  have HXS : Hid (x.size = (wireF ls).length) := hxs
  have HS : Hid (∀ (i : Nat) (s : ByteArray), ls[i]? = some s → s.size ≤ 63) := hs
  rw [← HL0]
  have hn5 : n ≤ 5 := by omega
  clear hx hs hxs HL0 hn
  go_enter Tryd.func24, Tryd.ntmps24
  go_wp2_with fail
  go_loopg [3, 4] n (fun g v i wx => ∃ k p : Nat, k ≤ n ∧ n ≤ k + g ∧ i = .int .i64 p ∧ p ≤ x.size ∧ Hid (p = posF ls k) ∧ Hid (Own (w.alloc (Obj.cells #[.string x] 27)) wx (w.heap.size + 1) 9 v ((ls.take k).map sv)))
  case atStart => exact ⟨0, 0, by omega, by omega, rfl, by omega, rfl, World.ownsRow_nil _ _ _ _, Below.refl _ _, by simp⟩
  case round =>
    obtain ⟨k, p, hk, hg, rfl, hp, HP, HO⟩ := hrel
    by_cases hlt : k < n
    · obtain ⟨s, hs⟩ : ∃ s, ls[k]? = some s := ⟨_, List.getElem?_eq_getElem (by rw [← HL.out]; exact hlt)⟩
      have hss := HS.out k s hs
      have hpx : p + 1 + s.size ≤ x.size := by rw [HP.out, HXS.out]; exact posF_lt hs
      have hxp : (x[p]'(by omega)).toNat = s.size := by
        have h1 : x.data.toList[p]? = some (UInt8.ofNat s.size) := by
          rw [HX.out, HP.out]; exact wire_at hs
        have h2 : x.data.toList[p]? = some (x[p]'(by omega)) := by
          rw [List.getElem?_eq_getElem (by simp; omega)]; rfl
        rw [h2] at h1
        injection h1 with h1
        rw [h1, UInt8.toNat_ofNat', Nat.mod_eq_of_lt (by omega)]
      have hcell : wr.cell? ⟨w.heap.size, 0, none⟩ = some (.string x) := by
        rw [HO.out.below.cell (p := ⟨w.heap.size, 0, none⟩) (Nat.lt_succ_self _)]
        simp
      have HE : Hid (x.extract (p + 1) (p + 1 + s.size) = s) := by
        rw [HX.out]; exact wire_extract hs p HP.out
      have HP2 : Hid (p + (1 + s.size) = posF ls (k + 1)) := by rw [HP.out]; exact (posF_succ hs).symm
      obtain ⟨XS, hXS⟩ : ∃ XS, XS = (ls.take k).map sv := ⟨_, rfl⟩
      have HT : Hid ((ls.take (k + 1)).map sv = XS ++ [sv s]) := by
        show _ = _
        rw [hXS, List.take_add_one, hs]; simp
      have HLen : Hid (XS.length ≤ 5) := by show _ ≤ _; rw [hXS]; simp; omega
      have HO' : Hid (Own (w.alloc (Obj.cells #[.string x] 27)) wr (w.heap.size + 1) 9 u3 XS) := by rw [hXS]; exact HO
      clear hs HO hXS
      have hw1 : IntKind.i64.wrap ((p : Int) + 1) = (p : Int) + 1 := by rw [IntKind.wrap_i64]; omega
      have hw2 : IntKind.i64.wrap (s.size : Int) = (s.size : Int) := by rw [IntKind.wrap_i64]; omega
      have hw3 : IntKind.i64.wrap ((p : Int) + 1 + (s.size : Int)) = (p : Int) + 1 + (s.size : Int) := by rw [IntKind.wrap_i64]; omega
      have hi1 : (0 : Int) ≤ (p : Int) + 1 + (s.size : Int) := by omega
      have hi2 : (p : Int) + 1 + (s.size : Int) ≤ (x.size : Int) := by omega
      have hi3 : (0 : Int) ≤ (p : Int) + 1 := by omega
      have hi4 : (p : Int) + 1 ≤ (p : Int) + 1 + (s.size : Int) := by omega
      have ht1 : ((p : Int) + 1).toNat = p + 1 := by omega
      have ht2 : ((p : Int) + 1 + (s.size : Int)).toNat = p + 1 + s.size := by omega
      go_wp2_with fail
      go_region_law (refine step_push HO'.out HLen.out (x.extract (p + 1) (p + 1 + s.size)) rfl (.tmp 18) (.tmp 32) rfl rfl rfl ?_; intro v1 w1 HO1)
      all_goals
        rw [HE.out, ← HT.out] at HO1
        have hcell1 : w1.cell? ⟨w.heap.size, 0, none⟩ = some (.string x) := (HO1.out.below.cell (p := ⟨w.heap.size, 0, none⟩) (Nat.lt_succ_self _)).trans (by simp)
        clear hcell HO' HE HT
        go_wp2
        go_roundg (gk - 1)
        case measure => omega
        case rel => exact ⟨k + 1, p + (1 + s.size), by omega, by omega, by go_num, by omega, HP2, HO1⟩
    · have hkn : k = n := by omega
      have hpx : p = x.size := by
        rw [HP.out, HXS.out]; exact posF_end (by rw [← HL.out]; omega)
      have hcell : wr.cell? ⟨w.heap.size, 0, none⟩ = some (.string x) := by
        rw [HO.out.below.cell (p := ⟨w.heap.size, 0, none⟩) (Nat.lt_succ_self _)]
        simp
      have HO2 : Hid (Own (w.alloc (Obj.cells #[.string x] 27)) wr (w.heap.size + 1) 9 u3 (ls.map sv)) := by
        have ht : ls.take k = ls := List.take_of_length_le (by rw [← HL.out]; omega)
        rw [ht] at HO
        exact HO
      clear HO
      subst hpx
      go_wp2
      go_ret
      have hb : Below w.heap.size w wr := ((Below.refl _ _).alloc (Nat.le_refl _) _).trans (HO2.out.below.mono (by omega))
      obtain ⟨g, cap, hv, hB, hcs⟩ := HO2.out.form (by simpa using hne)
      refine ⟨some ⟨g, 0, none⟩, cap, by rw [hv, List.length_map, ← HL.out]; rfl, fun _ => ⟨g, 0, rfl, fun i s hs => ?_⟩, hb⟩
      rw [Nat.zero_add]
      exact hcs i _ (by rw [List.getElem?_map, hs]; rfl)
end Go.Proofs.Qxb6003357aDoor
