/-
  utoa: a number in decimal: one to ten digits.
-/
import Derived.Test.Qxb6003357aDoorRows
import Derived.WalkKit
import Derived.WalkSpells
import Derived.WalkLawsBesides
import Derived.Deep.LoopGhost
import Derived.Laws.OwnMore
import Derived.Lib.SlBytesRow
import Derived.WalkSmall
namespace Go.Proofs.Qxb6003357aDoor
open Go.RowKit

def digit (b : UInt8) : Bool := decide (48 ≤ b.toNat ∧ b.toNat ≤ 57)


theorem digit_of (m : Nat) : ∃ b : UInt8, digit b = true ∧ b.toNat = 48 + m % 10 := by
  refine ⟨UInt8.ofNat (48 + m % 10), ?_, ?_⟩
  · have : (UInt8.ofNat (48 + m % 10)).toNat = 48 + m % 10 := by rw [UInt8.toNat_ofNat']; omega
    unfold digit
    rw [this]
    exact decide_eq_true ⟨by omega, by omega⟩
  · rw [UInt8.toNat_ofNat']; omega

/-- The array of ten bytes while it is filled from behind. -/
structure Filled (w wr : World) (B k : Nat) (ds : List UInt8) : Prop where
  len : ds.length + k = 10
  some' : ∀ j, j < 10 → (wr.cell? ⟨B, j, none⟩).isSome = true
  dig : ∀ (j : Nat) (b : UInt8), ds[j]? = some b → wr.cell? ⟨B, k + j, none⟩ = some (.int .u8 (b.toNat : Int))
  all : ∀ b ∈ ds, digit b = true
  frozen : ∀ j, wr.frozen? ⟨B, j, none⟩ = false
  below : Below B w wr

theorem Filled.step {w wr : World} {B k : Nat} {ds : List UInt8} (h : Filled w wr B (k + 1) ds) (b : UInt8) (hb : digit b = true) :
    Filled w (wr.setCell ⟨B, k, none⟩ (.int .u8 (b.toNat : Int))) B k (b :: ds) := by
  have hk : k < 10 := by have := h.len; omega
  refine ⟨by have := h.len; simp only [List.length_cons]; omega, fun j hj => ?_, fun j c hc => ?_, fun c hc => ?_, fun j => ?_, h.below.setCell (Nat.le_refl _) _⟩
  · obtain ⟨u, hu⟩ := Option.isSome_iff_exists.1 (h.some' j hj)
    obtain ⟨v, hv⟩ := cell?_setCell_some (p := ⟨B, k, none⟩) (x := .int .u8 (b.toNat : Int)) hu
    rw [hv]; rfl
  · cases j with
    | zero =>
      obtain ⟨u, hu⟩ := Option.isSome_iff_exists.1 (h.some' k hk)
      simp only [List.getElem?_cons_zero, Option.some.injEq] at hc
      subst hc
      exact World.cell?_setCell_same _ _ _ hu
    | succ j =>
      rw [List.getElem?_cons_succ] at hc
      rw [World.cell?_setCell_other _ _ _ _ (by intro e; injection e with _ e2 _; omega), show k + (j + 1) = k + 1 + j by omega]
      exact h.dig j c hc
  · rcases List.mem_cons.1 hc with rfl | hc
    · exact hb
    · exact h.all c hc
  · rw [World.frozen?_setCell]; exact h.frozen j

theorem Filled.bytes {w wr : World} {B k : Nat} {ds : List UInt8} (h : Filled w wr B k ds) : Lib.Bytes wr B k ⟨ds.toArray⟩ := fun i hi => by
  have hi' : i < ds.length := by simpa [ByteArray.size] using hi
  exact h.dig i _ (by rw [List.getElem?_eq_getElem hi']; rfl)

theorem pow_up {m k : Nat} (h : m < 10 ^ (k + 1)) : m / 10 < 10 ^ k := by
  rw [Nat.pow_succ] at h
  omega

theorem alen43 : Tryd.prog.arrayLen 43 = 10 := by kernel_rfl
theorem elem43 : Tryd.prog.elem 43 = 5 := by kernel_rfl
theorem slice43 (w : World) (B k : Nat) (hk : k < 10) :
    (Instr.sliceAt 43 (.pointer (some ⟨B, 0, none⟩)) (some (.int .i64 (k : Int))) none none).run Tryd.prog w = .ok (.slice (some ⟨B, k, none⟩) (10 - k) (10 - k)) w := by
  rw [run_sliceAt_array_l w 43 _ (by rw [alen43, elem43]; exact Tryd.underlying43) .i64 (k : Int) (by omega) (by rw [alen43]; omega), alen43, elem43, Tryd.sizeOf5]
  have : ¬ (10 = k) := by omega
  simp [Result.andThen, slicedAt, Addr.add, this]
  try omega

theorem filled_start (w : World) : Filled w (w.alloc (Obj.cells #[Value.int IntKind.u8 0, Value.int IntKind.u8 0, Value.int IntKind.u8 0, Value.int IntKind.u8 0, Value.int IntKind.u8 0, Value.int IntKind.u8 0, Value.int IntKind.u8 0, Value.int IntKind.u8 0, Value.int IntKind.u8 0, Value.int IntKind.u8 0] 43)) w.heap.size 10 [] := by
  refine ⟨rfl, fun j hj => ?_, fun j b h => absurd h (by simp), fun b h => absurd h (by simp), fun j => ?_, (Below.refl _ _).alloc (Nat.le_refl _) _⟩
  · match j, hj with
    | 0, _ | 1, _ | 2, _ | 3, _ | 4, _ | 5, _ | 6, _ | 7, _ | 8, _ | 9, _ => simp
  · simp

set_option maxHeartbeats 1000000 in
set_option maxRecDepth 100000 in
theorem utoa_any (m : Nat) (w : World) (hm : m < 4294967296) :
    Calls Tryd.prog 17 #[.int .u32 m] w fun e w' => (∃ s : ByteArray, e = .returned (.string s) ∧ 1 ≤ s.size ∧ s.size ≤ 10 ∧ ∀ b ∈ s.data.toList, digit b = true) ∧ Below w.heap.size w w' := by
  by_cases h0 : m = 0
  · subst h0
    go_enter Tryd.func17, Tryd.ntmps17
    go_wp2
    go_ret
    exact ⟨⟨_, rfl, by decide, by decide, by decide⟩, Below.refl _ _⟩
  go_enter Tryd.func17, Tryd.ntmps17
  go_wp2_with fail
  go_loopg [0, 4] 11 (fun g v i wx => ∃ k u : Nat, ∃ ds : List UInt8, k ≤ 10 ∧ k < g ∧ v = .int .u32 u ∧ u < 4294967296 ∧ i = .int .i64 k ∧ Hid (u < 10 ^ k) ∧ (0 < u ∨ k < 10) ∧ Hid (Filled w wx w.heap.size k ds))
  case atStart =>
    refine ⟨10, m, [], by omega, by omega, rfl, hm, rfl, ?_, by omega, ?_⟩
    · show m < 10 ^ 10; omega
    · exact filled_start w
  case round =>
    obtain ⟨k, u, ds, hk, hg, rfl, hu, rfl, HU, hor, HF⟩ := hrel
    by_cases hu0 : 0 < u
    · obtain ⟨j, rfl⟩ : ∃ j, k = j + 1 := by
        cases k with
        | zero => have := HU.out; simp at this; omega
        | succ j => exact ⟨j, rfl⟩
      obtain ⟨b, hb1, hb2⟩ := digit_of u
      have HN := HF.out.step b hb1
      obtain ⟨x0, hx0⟩ := Option.isSome_iff_exists.1 (HF.out.some' j (by omega))
      have hf0 := HF.out.frozen j
      have HN' : Hid (Filled w (wr.setCell ⟨w.heap.size, j, none⟩ (.int .u8 (48 + (u : Int) % 10))) w.heap.size j (b :: ds)) := by
        rw [show (48 + (u : Int) % 10) = (b.toNat : Int) by omega]; exact HN
      have HP : Hid (u / 10 < 10 ^ j) := pow_up HU.out
      clear HN hb2 HF HU
      go_wp2
      go_roundg (gk - 1)
      case measure => omega
      case rel => exact ⟨j, u / 10, b :: ds, by omega, by omega, by go_num, by omega, by go_num, HP, by omega, HN'⟩
    · obtain rfl : u = 0 := by omega
      have hds : ds.length + k = 10 := HF.out.len
      have hsz : (ByteArray.mk ds.toArray).size = 10 - k := by simp [ByteArray.size]; omega
      have hcv := Lib.run_convert_whole (P := Tryd.prog) wr 39 5 9 Tryd.underlying39 Tryd.underlying5 Tryd.underlying9 w.heap.size k ⟨ds.toArray⟩ HF.out.bytes (10 - k)
      rw [hsz] at hcv
      have hsl := slice43 wr w.heap.size k (by omega)
      go_wp2
      go_ret
      exact ⟨⟨_, rfl, by rw [hsz]; omega, by rw [hsz]; omega, by simpa using HF.out.all⟩, HF.out.below⟩
end Go.Proofs.Qxb6003357aDoor
