/-
  Appending bytes; zzAppendQuoted.
-/
import Derived.Test.Qxb6600273aDoorParse2
namespace Go.Proofs.Qxb6600273aDoor
open Go.Shelf Go.RowKit

abbrev bv (b : UInt8) : Value := .int .u8 (b.toNat : Int)

theorem Own.alloc {w wr : World} {B e : Nat} {v : Value} {xs : List Value} (h : Own w wr B e v xs) (o : Obj) : Own w (wr.alloc o) B e v xs := h.kept ((Below.refl _ _).alloc (Nat.le_refl _) o)

/-- append of bytes onto a row of the call's own. -/
theorem wpList_push {ops : Array Oper} {rest : List Oper} {o : Oper} {a : Act} {Q : Exit → Act → World → Prop} {w0 w1 : World} {B : Nat} {v : Value} {l : List UInt8} (h : Own w0 w1 B 5 v (l.map bv)) (cs : List UInt8) (hlen : l.length + cs.length ≤ 70368744177664)
    (hgd : o.guard = none) (p q : Operand) (ho : o.op = .call { callee := .builtin .append, args := #[p, q], argTypes := #[24, 24] }) (hp : a.eval p = v) (ad : Addr) (m c : Nat) (hm : m = cs.length) (hq : a.eval q = .slice (some ad) m c)
    (hcs : ∀ (j : Nat) (b : UInt8), cs[j]? = some b → w1.cell? (ad.add j) = some (bv b))
    (hK : ∀ v' w2, Hid (Own w0 w2 B 5 v' ((l ++ cs).map bv)) → wpList Tryd.prog ops Q rest (a.put o.dst v') w2) : wpList Tryd.prog ops Q (o :: rest) a w1 := by
  obtain ⟨i0, hi, hz0, hz1, hz2⟩ := info_parts info5
  refine wpList_append_own _ hgd p q 24 ho B 5 i0 (.int .u8 0) 1 1 Tryd.underlying24 hi hz0 hz1 hz2 rfl (by decide) v _ (l.map bv) hp h.own ad m c (cs.map bv) hq (by simp [hm]) ?_ ?_ ?_ ?_ h.size ?_
  · intro j u hj
    rw [List.getElem?_map] at hj
    obtain ⟨b, hb, rfl⟩ := Option.map_eq_some_iff.1 hj
    exact hcs j b hb
  · intro u hu
    obtain ⟨b, _, rfl⟩ := List.mem_map.1 hu
    rfl
  · rw [List.length_map]; unfold maxLen; omega
  · rw [List.length_map]; omega
  · intro v' w2 hown hgrow _
    refine hK v' w2 ?_
    rw [List.map_append]
    exact h.grow (Below.refl _ _) hown rfl hgrow

theorem new1 (w : World) (c : UInt8) (x : Int) (hx : x = (c.toNat : Int)) : ∀ (j : Nat) (b : UInt8), [c][j]? = some b → (w.alloc (Obj.cells #[.int .u8 x] 5)).cell? ((⟨w.heap.size, 0, none⟩ : Addr).add j) = some (bv b) := by
  intro j b hj
  match j, hj with
  | 0, hj => simp at hj; subst hj; subst hx; simp [Addr.add]
theorem new2 (w : World) (c d : UInt8) (x y : Int) (hx : x = (c.toNat : Int)) (hy : y = (d.toNat : Int)) : ∀ (j : Nat) (b : UInt8), [c, d][j]? = some b → (w.alloc (Obj.cells #[.int .u8 x, .int .u8 y] 5)).cell? ((⟨w.heap.size, 0, none⟩ : Addr).add j) = some (bv b) := by
  intro j b hj
  match j, hj with
  | 0, hj => simp at hj; subst hj; subst hx; simp [Addr.add]
  | 1, hj => simp at hj; subst hj; subst hy; simp [Addr.add]

theorem spec_eq (c : UInt8) : spec c = (((c.toNat : Int) == 34) || ((c.toNat : Int) == 92)) := by
  unfold spec
  have h1 : (c == 34) = ((c.toNat : Int) == 34) := by
    rw [Bool.eq_iff_iff]; simp; constructor
    · intro h; rw [h]; rfl
    · intro h; exact UInt8.toNat_inj.1 (by simpa using (by omega : c.toNat = 34))
  have h2 : (c == 92) = ((c.toNat : Int) == 92) := by
    rw [Bool.eq_iff_iff]; simp; constructor
    · intro h; rw [h]; rfl
    · intro h; exact UInt8.toNat_inj.1 (by simpa using (by omega : c.toNat = 92))
  rw [h1, h2]

set_option maxHeartbeats 4000000 in
set_option maxRecDepth 100000 in
theorem quoted_any (w0 w : World) (B : Nat) (v : Value) (l : List UInt8) (t : ByteArray) (h : Own w0 w B 5 v (l.map bv)) (hl : l.length + 2 * t.size + 2 ≤ 70368744177664) :
    Calls Tryd.prog 7 #[v, .string t] w fun e w' => ∃ v', e = .returned v' ∧ Own w0 w' B 5 v' ((l ++ quo t).map bv) := by
  have HO : Hid (Own w0 w B 5 v (l.map bv)) := h
  clear h
  go_enter Tryd.func7, Tryd.ntmps7
  go_wp2_with (at_builtin; refine wpList_push (HO.out.alloc _) [34] (by simp; omega) rfl (.tmp 6) (.tmp 7) rfl rfl ⟨w.heap.size, 0, none⟩ 1 1 rfl rfl (new1 w 34 34 rfl) ?_; intro v1 w1 HO1; clear HO)
  go_loopg [0, 5] t.size (fun g v i wx => ∃ k : Nat, k ≤ t.size ∧ t.size ≤ k + g ∧ i = .int .i64 k ∧ Hid (Own w0 wx B 5 v ((l ++ 34 :: esc (t.data.toList.take k)).map bv)))
  case atStart => exact ⟨0, by omega, by omega, rfl, HO1⟩
  case round =>
    obtain ⟨k, hk, hg, rfl, HO2⟩ := hrel
    by_cases hlt : k < t.size
    · have hc : t.data.toList[k]? = some t[k] := by
        rw [List.getElem?_eq_getElem (by simpa using hlt)]; rfl
      have het := esc_take hc
      have hle := esc_len (t.data.toList.take k)
      have hle2 : (t.data.toList.take k).length ≤ k := by rw [List.length_take]; omega
      have hL : (l ++ 34 :: esc (t.data.toList.take k)).length + 2 ≤ 70368744177664 := by
        simp only [List.length_append, List.length_cons]; omega
      have HL : Hid ((l ++ 34 :: esc (t.data.toList.take k)).length + 2 ≤ 70368744177664) := hL
      have hse := spec_eq t[k]
      clear hle hle2 hc hL
      cases hsp : spec t[k]
      · obtain ⟨n1, n2⟩ := spec_ne hsp
        have HN : Hid ((l ++ 34 :: esc (t.data.toList.take k)) ++ [t[k]] = l ++ 34 :: esc (t.data.toList.take (k + 1))) := by
          show _ = _
          rw [het]; simp [e1, hsp]
        clear hse het hsp
        go_wp2_with (at_builtin; refine wpList_push (HO2.out.alloc _) [t[k]] (by have := HL.out; simp only [List.length_cons, List.length_nil]; omega) rfl (.tmp 28) (.tmp 32) rfl rfl ⟨wr.heap.size, 0, none⟩ 1 1 rfl rfl (new1 wr t[k] _ rfl) ?_; intro v3 w3 HO3; clear HO2)
        rw [HN.out] at HO3
        go_wp2
        go_roundg (gk - 1)
        case measure => omega
        case rel => exact ⟨k + 1, by omega, by omega, by go_num, HO3⟩
      · have HN : Hid ((l ++ 34 :: esc (t.data.toList.take k)) ++ [92] ++ [t[k]] = l ++ 34 :: esc (t.data.toList.take (k + 1))) := by
          show _ = _
          rw [het]; simp [e1, hsp]
        rw [hsp] at hse
        clear het hsp
        cases h34 : (((t[k]).toNat : Int) == 34)
        · have h92 : (((t[k]).toNat : Int) == 92) = true := by rw [h34] at hse; simpa using hse.symm
          clear hse
          go_wp2_with (first
            | (at_builtin; refine wpList_push (HO2.out.alloc _) [92] (by have := HL.out; simp only [List.length_cons, List.length_nil]; omega) rfl (.tmp 25) (.tmp 26) rfl rfl ⟨wr.heap.size, 0, none⟩ 1 1 rfl rfl (new1 wr 92 92 rfl) ?_; intro v3 w3 HO3; clear HO2)
            | (at_builtin; refine wpList_push (HO3.out.alloc _) [t[k]] (by have := HL.out; rw [List.length_append]; simp only [List.length_cons, List.length_nil]; omega) rfl (.tmp 28) (.tmp 32) rfl rfl ⟨w3.heap.size, 0, none⟩ 1 1 rfl rfl (new1 w3 t[k] _ rfl) ?_; intro v4 w4 HO4; clear HO3))
          rw [HN.out] at HO4
          go_wp2
          go_roundg (gk - 1)
          case measure => omega
          case rel => exact ⟨k + 1, by omega, by omega, by go_num, HO4⟩
        · clear hse
          go_wp2_with (first
            | (at_builtin; refine wpList_push (HO2.out.alloc _) [92] (by have := HL.out; simp only [List.length_cons, List.length_nil]; omega) rfl (.tmp 25) (.tmp 26) rfl rfl ⟨wr.heap.size, 0, none⟩ 1 1 rfl rfl (new1 wr 92 92 rfl) ?_; intro v3 w3 HO3; clear HO2)
            | (at_builtin; refine wpList_push (HO3.out.alloc _) [t[k]] (by have := HL.out; rw [List.length_append]; simp only [List.length_cons, List.length_nil]; omega) rfl (.tmp 28) (.tmp 32) rfl rfl ⟨w3.heap.size, 0, none⟩ 1 1 rfl rfl (new1 w3 t[k] _ rfl) ?_; intro v4 w4 HO4; clear HO3))
          rw [HN.out] at HO4
          go_wp2
          go_roundg (gk - 1)
          case measure => omega
          case rel => exact ⟨k + 1, by omega, by omega, by go_num, HO4⟩
    · have e0 : t.data.toList.length = t.size := by simp
      have htk : t.data.toList.take k = t.data.toList := List.take_of_length_le (by omega)
      rw [htk] at HO2
      have hle := esc_len t.data.toList
      have hL : (l ++ 34 :: esc t.data.toList).length + 1 ≤ 70368744177664 := by
        simp only [List.length_append, List.length_cons]; omega
      have HL : Hid ((l ++ 34 :: esc t.data.toList).length + 1 ≤ 70368744177664) := hL
      have HN : Hid ((l ++ 34 :: esc t.data.toList) ++ [34] = l ++ quo t) := by
        show _ = _
        simp [quo]
      clear e0 htk hle hL
      go_wp2_with (at_builtin; refine wpList_push (HO2.out.alloc _) [34] (by have := HL.out; simp only [List.length_cons, List.length_nil]; omega) rfl (.tmp 34) (.tmp 35) rfl rfl ⟨wr.heap.size, 0, none⟩ 1 1 rfl rfl (new1 wr 34 34 rfl) ?_; intro v3 w3 HO3; clear HO2)
      rw [HN.out] at HO3
      go_wp2
      go_ret
      exact ⟨_, rfl, HO3.out⟩
end Go.Proofs.Qxb6600273aDoor
