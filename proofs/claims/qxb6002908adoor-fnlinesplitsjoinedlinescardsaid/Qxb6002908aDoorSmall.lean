/-
  Small functions: line ends, a copy of bytes, two slices of bytes compared.
-/
import Derived.Test.Qxb6002908aDoorRows
import Derived.WalkKit
import Derived.WalkSpells
import Derived.WalkLawsBesides
import Derived.BigQuiet
import Derived.Deep.QuietTactic
import Derived.Lib.Strings
import Derived.Laws.OwnMore
namespace Go.Proofs.Qxb6002908aDoor
open Go.RowKit

/-- A slice of the bytes l at address p. -/
def BAt (w : World) (p : Option Addr) (l : List UInt8) : Prop := l ≠ [] → ∃ b o, p = some ⟨b, o, none⟩ ∧ ∀ (i : Nat) x, l[i]? = some x → w.cell? ⟨b, o + i, none⟩ = some (.int .u8 (x.toNat : Int))

theorem BAt.nil (w : World) (p : Option Addr) : BAt w p [] := fun h => absurd rfl h
theorem BAt.at {w : World} {p : Option Addr} {l : List UInt8} (h : BAt w p l) (hl : l ≠ []) : ∃ b o, p = some ⟨b, o, none⟩ ∧ ∀ (i : Nat) x, l[i]? = some x → w.cell? ⟨b, o + i, none⟩ = some (.int .u8 (x.toNat : Int)) := h hl
theorem BAt.below {w w' : World} {p : Option Addr} {l : List UInt8} (h : BAt w p l) {B : Nat} (hb : Below w.heap.size w w') (_ : B = B) : BAt w' p l := fun hl => by
  obtain ⟨b, o, rfl, hc⟩ := h hl
  exact ⟨b, o, rfl, fun i x hx => (hb.cell (p := ⟨b, o + i, none⟩) (World.block_lt_of_cell? _ _ (hc i x hx))).trans (hc i x hx)⟩

def lend (b : UInt8) : Bool := [13, 10].contains b
theorem lend_iff (b : UInt8) : lend b = (((b.toNat : Int) == 13) || ((b.toNat : Int) == 10)) := by
  unfold lend
  have h1 : (b == 13) = ((b.toNat : Int) == 13) := by
    rw [Bool.eq_iff_iff]; simp; constructor
    · intro h; rw [h]; rfl
    · intro h; exact UInt8.toNat_inj.1 (by simpa using (by omega : b.toNat = 13))
  have h2 : (b == 10) = ((b.toNat : Int) == 10) := by
    rw [Bool.eq_iff_iff]; simp; constructor
    · intro h; rw [h]; rfl
    · intro h; exact UInt8.toNat_inj.1 (by simpa using (by omega : b.toNat = 10))
  rw [← h1, ← h2]
  simp only [List.contains, List.elem]
  cases (b == 13) <;> cases (b == 10) <;> rfl

set_option maxHeartbeats 400000 in
theorem isEnd_any (x : UInt8) (w : World) :
    Calls Tryd.prog 6 #[.int .u8 (x.toNat : Int)] w fun e w' => e = .returned (.bool (lend x)) ∧ w' = w := by
  rw [lend_iff]
  cases h : ((x.toNat : Int) == 13)
  all_goals
    go_enter Tryd.func6, Tryd.ntmps6
    go_wp2
    go_ret
    exact ⟨by simp, rfl⟩

theorem info5 : (Tryd.prog.info? 5).map (fun i => (i.zero, i.size, i.bytes)) = some (some (.int .u8 0), 1, 1) := by kernel_rfl

theorem eqlNil (w : World) (a : Option Addr) (n c : Nat) : (binOp .eql 22 (.slice a n c) (.slice none 0 0)).run Tryd.prog w = .ok (.bool a.isNone) w :=
  Lib.run_eql_slice_nil w 22 5 a n c 0 0 Tryd.underlying22

theorem clone_nil (w : World) : Calls Tryd.prog 7 #[.slice none 0 0] w fun e w' => e = .returned (.slice none 0 0) ∧ w' = w := by
  have hq := eqlNil
  go_enter Tryd.func7, Tryd.ntmps7
  go_wp2
  go_ret
  exact ⟨rfl, rfl⟩

set_option maxHeartbeats 400000 in
theorem clone_any (a : Addr) (n c : Nat) (l : List UInt8) (w : World) (hl : l.length = n) (hB : BAt w (some a) l) (hn : n ≤ 1048576) :
    Calls Tryd.prog 7 #[.slice (some a) n c] w fun e w' => e = .returned (.slice (some ⟨w.heap.size, 0, none⟩) n n) ∧ BAt w' (some ⟨w.heap.size, 0, none⟩) l ∧ Below w.heap.size w w' ∧ w.heap.size < w'.heap.size := by
  obtain ⟨i0, hi, hz0, hz1, hz2⟩ := info_parts info5
  have HB : Hid (BAt w (some a) l) := hB
  have HLn : Hid (l.length = n) := hl
  clear hB hl
  have hq := eqlNil
  go_enter Tryd.func7, Tryd.ntmps7
  go_wp2_with (at_make; refine wpList_make_full _ rfl _ _ 22 rfl w.heap.size 5 i0 (.int .u8 0) 1 Tryd.underlying22 hi hz0 hz1 _ _ _ _ n rfl rfl (by omega) (by omega) (by rw [hz2]; omega) (by unfold maxLen; omega) (Nat.le_refl _) ?_; intro w1 hown hgrow)
  have HO : Hid (∃ xs : List Value, xs.length = n ∧ w1.ownsRow w.heap.size 5 1 (.slice (some ⟨w.heap.size, 0, none⟩) n n) n xs) := ⟨_, by have := hown.1; omega, hown⟩
  have HW1 : Hid (Below w.heap.size w w1) := (Below.refl _ _).grown hgrow (Nat.le_refl _) (fun k h => by cases h)
  have HZ1 : Hid (w.heap.size < w1.heap.size) := by
    rcases hown.2 with ⟨h, _⟩ | ⟨g, cap, cur, h, _, hg, _⟩
    · cases h
    · simp only [Value.slice.injEq, Option.some.injEq, Addr.mk.injEq, and_true, true_and] at h
      obtain ⟨rfl, rfl⟩ := h
      exact (Array.getElem?_eq_some_iff.1 hg).1
  clear hown hgrow hq hi hz0 hz1 hz2
  go_loopw [4] (fun i wr => ∃ (k : Nat) (xs : List Value), k ≤ n ∧ i = .int .i64 k ∧ Hid (xs.length = n ∧ wr.ownsRow w.heap.size 5 1 (.slice (some ⟨w.heap.size, 0, none⟩) n n) n xs ∧ (∀ j x, j < k → l[j]? = some x → xs[j]? = some (.int .u8 (x.toNat : Int))) ∧ Below w.heap.size w wr ∧ w.heap.size < wr.heap.size)) (fun i _ => n - (intOf i).toNat)
  case atStart =>
    obtain ⟨xs, h1, h2⟩ := HO.out
    exact ⟨0, xs, Nat.zero_le _, rfl, h1, h2, fun j x hj => absurd hj (Nat.not_lt_zero _), HW1.out, HZ1.out⟩
  case round =>
    obtain ⟨k, xs, hk, rfl, HR⟩ := hrel
    by_cases hlt : k < n
    · obtain ⟨h1, h2, h3, h4, h5⟩ := HR.out
      have hkl : k < l.length := by rw [HLn.out]; exact hlt
      obtain ⟨x, hx⟩ : ∃ x, l[k]? = some x := ⟨_, List.getElem?_eq_getElem hkl⟩
      obtain ⟨b, o, ha, hc⟩ := HB.out.at (by intro h; rw [h] at hkl; simp at hkl)
      cases ha
      have hck := hc k x hx
      have hbl : b < w.heap.size := World.block_lt_of_cell? _ _ hck
      have hcr : wr.cell? ⟨b, o + k, none⟩ = some (.int .u8 (x.toNat : Int)) := (h4.cell (p := ⟨b, o + k, none⟩) hbl).trans hck
      have hfr : wr.frozen? ⟨w.heap.size, k, none⟩ = false := h2.frozenAt k
      have hcell : ∃ v, wr.cell? ⟨w.heap.size, k, none⟩ = some v := by
        rw [h2.cellAt k (by omega)]
        exact ⟨_, List.getElem?_eq_getElem (by omega)⟩
      obtain ⟨v0, hv0⟩ := hcell
      obtain ⟨st1, st2⟩ := h2.stored k (.int .u8 (x.toNat : Int))
      have HN : Hid ((xs.set k (.int .u8 (x.toNat : Int))).length = n ∧ (wr.setCell ⟨w.heap.size, k, none⟩ (.int .u8 (x.toNat : Int))).ownsRow w.heap.size 5 1 (.slice (some ⟨w.heap.size, 0, none⟩) n n) n (xs.set k (.int .u8 (x.toNat : Int))) ∧ (∀ j y, j < k + 1 → l[j]? = some y → (xs.set k (.int .u8 (x.toNat : Int)))[j]? = some (.int .u8 (y.toNat : Int))) ∧ Below w.heap.size w (wr.setCell ⟨w.heap.size, k, none⟩ (.int .u8 (x.toNat : Int))) ∧ w.heap.size < (wr.setCell ⟨w.heap.size, k, none⟩ (.int .u8 (x.toNat : Int))).heap.size) := by
        refine ⟨by simpa using h1, st1, fun j y hj hy => ?_, h4.setCell (Nat.le_refl _) _, by have := (h4.setCell (p := ⟨w.heap.size, k, none⟩) (Nat.le_refl _) (.int .u8 (x.toNat : Int))).size; simpa using h5⟩
        by_cases hjk : j = k
        · subst hjk
          rw [hx] at hy
          cases hy
          rw [List.getElem?_set_self (by omega)]
        · rw [List.getElem?_set_ne (by omega)]
          exact h3 j y (by omega) hy
      clear h1 h2 h3 h4 h5 hck hc hx HR st1 st2
      go_wp2
      go_roundw
      case rel => exact ⟨k + 1, _, by omega, by go_num, HN⟩
      case measure => simp [intOf]; omega
    · go_wp2
      go_ret
      obtain ⟨h1, h2, h3, h4, h5⟩ := HR.out
      refine ⟨rfl, fun _ => ⟨_, _, rfl, fun i x hx => ?_⟩, h4, h5⟩
      have hil : i < l.length := (List.getElem?_eq_some_iff.1 hx).1
      have := HLn.out
      rw [Nat.zero_add, h2.cellAt i (by omega)]
      exact h3 i x (by omega) hx

/-- Two slices of the same bytes. -/
theorem same_any (p q : Option Addr) (n c d : Nat) (l : List UInt8) (w : World) (hl : l.length = n) (hp : BAt w p l) (hq : BAt w q l) (hn : n ≤ 1048576) :
    Calls Tryd.prog 9 #[.slice p n c, .slice q n d] w fun e w' => e = .returned (.bool true) ∧ Below w.heap.size w w' := by
  have HP : Hid (BAt w p l) := hp
  have HQ : Hid (BAt w q l) := hq
  have HLn : Hid (l.length = n) := hl
  clear hp hq hl
  go_enter Tryd.func9, Tryd.ntmps9
  go_wp2
  go_loopw [5] (fun i wr => ∃ (k : Nat), k ≤ n ∧ i = .int .i64 k ∧ Hid (Below w.heap.size w wr)) (fun i _ => n - (intOf i).toNat)
  case atStart => exact ⟨0, Nat.zero_le _, rfl, Below.refl _ _⟩
  case round =>
    obtain ⟨k, hk, rfl, HR⟩ := hrel
    by_cases hlt : k < n
    · have hkl : k < l.length := by rw [HLn.out]; exact hlt
      obtain ⟨x, hx⟩ : ∃ x, l[k]? = some x := ⟨_, List.getElem?_eq_getElem hkl⟩
      have hne : l ≠ [] := by intro h; rw [h] at hkl; simp at hkl
      obtain ⟨b, o, hpa, hc⟩ := HP.out.at hne
      obtain ⟨b2, o2, hqa, hc2⟩ := HQ.out.at hne
      subst hpa hqa
      have c1 : wr.cell? ⟨b, o + k, none⟩ = some (.int .u8 (x.toNat : Int)) := (HR.out.cell (p := ⟨b, o + k, none⟩) (World.block_lt_of_cell? _ _ (hc k x hx))).trans (hc k x hx)
      have c2 : wr.cell? ⟨b2, o2 + k, none⟩ = some (.int .u8 (x.toNat : Int)) := (HR.out.cell (p := ⟨b2, o2 + k, none⟩) (World.block_lt_of_cell? _ _ (hc2 k x hx))).trans (hc2 k x hx)
      clear hc hc2 hx hne
      go_wp2_with fail
      go_quiet (fail)
      go_wp2
      go_roundw
      case rel => exact ⟨k + 1, by omega, by go_num, below_drewN HR.out _⟩
      case measure => simp [intOf]; omega
    · go_wp2
      go_ret
      exact ⟨rfl, HR.out⟩

theorem bytes5 (p : Option Addr) (n c : Nat) (pos sc : Int) (f : Bool) (w : World) (hn : n ≤ maxLen) :
    Calls Tryd.prog 5 #[.slice p n c, .int .i64 pos, .int .i64 sc, .bool f] w fun e w' => e = .returned (.bool (decide (n ≤ 1048576))) ∧ w' = w := by
  unfold maxLen at hn
  by_cases h : n ≤ 1048576
  all_goals
    go_enter Tryd.func5, Tryd.ntmps5
    go_wp2
    go_ret
    exact ⟨by simp [h], rfl⟩
end Go.Proofs.Qxb6002908aDoor
