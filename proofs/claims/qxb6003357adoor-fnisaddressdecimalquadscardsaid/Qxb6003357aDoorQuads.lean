/-
  FnIsAddressDecimalQuads: the walk.
-/
import Derived.Test.Qxb6003357aDoorAddr
namespace Go.Proofs.Qxb6003357aDoor
open Go.RowKit

theorem bytes16 (a b c d : Nat) (x : ByteArray) (w : World) (hx : x.size ≤ 9223372036854775807) :
    Calls Tryd.prog 16 #[.int .u32 a, .int .u32 b, .int .u32 c, .int .u32 d, .string x] w fun e w' => e = .returned (.bool (decide (x.size ≤ 1048576))) ∧ w' = w := by
  by_cases h : x.size ≤ 1048576
  · rw [decide_eq_true h]
    go_enter Tryd.func16, Tryd.ntmps16
    go_wp2
    go_ret
    exact ⟨rfl, rfl⟩
  · rw [decide_eq_false h]
    go_enter Tryd.func16, Tryd.ntmps16
    go_wp2
    go_ret
    exact ⟨rfl, rfl⟩

structure Lab (s : ByteArray) : Prop where
  lo : 1 ≤ s.size
  hi : s.size ≤ 63
  dig : allDig s = true

theorem utoa_lab (m : Nat) (w : World) (hm : m < 4294967296) :
    Calls Tryd.prog 17 #[.int .u32 m] w fun e w' => ∃ s : ByteArray, e = .returned (.string s) ∧ Hid (Lab s) ∧ Below w.heap.size w w' := by
  refine (utoa_any m w hm).mono ?_
  rintro e w' ⟨⟨s, rfl, h1, h2, h3⟩, hb⟩
  exact ⟨s, rfl, ⟨h1, by omega, List.all_eq_true.2 h3⟩, hb⟩

theorem small_of {ls : List ByteArray} (h : ∀ s ∈ ls, s.size ≤ 63) : ∀ (i : Nat) (s : ByteArray), ls[i]? = some s → s.size ≤ 63 := fun _ s hs => h s (List.mem_of_getElem? hs)

theorem sat4 {w : World} {B : Nat} {s0 s1 s2 s3 : ByteArray} (h0 : w.cell? ⟨B, 0, none⟩ = some (.string s0)) (h1 : w.cell? ⟨B, 1, none⟩ = some (.string s1)) (h2 : w.cell? ⟨B, 2, none⟩ = some (.string s2)) (h3 : w.cell? ⟨B, 3, none⟩ = some (.string s3)) :
    SAt w (some ⟨B, 0, none⟩) [s0, s1, s2, s3] := fun _ => ⟨B, 0, rfl, fun i s hs => by
  match i, hs with
  | 0, hs => cases hs; simpa using h0
  | 1, hs => cases hs; simpa using h1
  | 2, hs => cases hs; simpa using h2
  | 3, hs => cases hs; simpa using h3⟩
theorem sat3 {w : World} {B : Nat} {s1 s2 s3 : ByteArray} (h1 : w.cell? ⟨B, 1, none⟩ = some (.string s1)) (h2 : w.cell? ⟨B, 2, none⟩ = some (.string s2)) (h3 : w.cell? ⟨B, 3, none⟩ = some (.string s3)) :
    SAt w (some ⟨B, 1, none⟩) [s1, s2, s3] := fun _ => ⟨B, 1, rfl, fun i s hs => by
  match i, hs with
  | 0, hs => cases hs; simpa using h1
  | 1, hs => cases hs; simpa using h2
  | 2, hs => cases hs; simpa using h3⟩
theorem sat5 {w : World} {B : Nat} {s0 s1 s2 s3 s4 : ByteArray} (h0 : w.cell? ⟨B, 0, none⟩ = some (.string s0)) (h1 : w.cell? ⟨B, 1, none⟩ = some (.string s1)) (h2 : w.cell? ⟨B, 2, none⟩ = some (.string s2)) (h3 : w.cell? ⟨B, 3, none⟩ = some (.string s3)) (h4 : w.cell? ⟨B, 4, none⟩ = some (.string s4)) :
    SAt w (some ⟨B, 0, none⟩) [s0, s1, s2, s3, s4] := fun _ => ⟨B, 0, rfl, fun i s hs => by
  match i, hs with
  | 0, hs => cases hs; simpa using h0
  | 1, hs => cases hs; simpa using h1
  | 2, hs => cases hs; simpa using h2
  | 3, hs => cases hs; simpa using h3
  | 4, hs => cases hs; simpa using h4⟩

/-- The four cells. -/
structure Four (w : World) (B : Nat) (s0 s1 s2 s3 : ByteArray) : Prop where
  lt : B < w.heap.size
  c0 : w.cell? ⟨B, 0, none⟩ = some (.string s0)
  c1 : w.cell? ⟨B, 1, none⟩ = some (.string s1)
  c2 : w.cell? ⟨B, 2, none⟩ = some (.string s2)
  c3 : w.cell? ⟨B, 3, none⟩ = some (.string s3)
theorem Four.below {w w' : World} {B : Nat} {s0 s1 s2 s3 : ByteArray} (h : Four w B s0 s1 s2 s3) (hb : Below w.heap.size w w') : Four w' B s0 s1 s2 s3 :=
  ⟨Nat.lt_of_lt_of_le h.lt hb.size, (hb.cell (p := ⟨B, 0, none⟩) h.lt).trans h.c0, (hb.cell (p := ⟨B, 1, none⟩) h.lt).trans h.c1, (hb.cell (p := ⟨B, 2, none⟩) h.lt).trans h.c2, (hb.cell (p := ⟨B, 3, none⟩) h.lt).trans h.c3⟩

set_option maxHeartbeats 4000000 in
set_option maxRecDepth 100000 in
theorem quads_any (a b c d : Nat) (x : ByteArray) (w : World) (ha : a < 4294967296) (hb : b < 4294967296) (hc : c < 4294967296) (hd : d < 4294967296) (hx : x.size ≤ 9223372036854775807) :
    Calls Tryd.prog 4 #[.int .u32 a, .int .u32 b, .int .u32 c, .int .u32 d, .string x] w fun e w' => e = .returned (.bool true) ∧ Below w.heap.size w w' := by
  have hz := bytes16 a b c d x w hx
  by_cases h : x.size ≤ 1048576
  rotate_left
  · rw [decide_eq_false h] at hz
    go_enter Tryd.func4, Tryd.ntmps4
    go_wp2_with fail
    refine hz.mono ?_
    rintro e w1 ⟨rfl, rfl⟩
    clear hz
    go_wp2
    go_ret
    exact ⟨rfl, Below.refl _ _⟩
  rw [decide_eq_true h] at hz
  have hA := fun w' => utoa_lab a w' ha
  have hB := fun w' => utoa_lab b w' hb
  have hC := fun w' => utoa_lab c w' hc
  have hD := fun w' => utoa_lab d w' hd
  go_enter Tryd.func4, Tryd.ntmps4
  go_wp2_with fail
  refine hz.mono ?_
  rintro e w ⟨rfl, rfl⟩
  clear hz
  go_wp2_with fail
  refine (hA _).mono ?_
  rintro e w1 ⟨s0, rfl, HL0, hb1⟩
  have HB1 : Hid (Below w.heap.size w w1) := hb1
  clear hb1 hA
  go_wp2_with fail
  refine (hB _).mono ?_
  rintro e w2 ⟨s1, rfl, HL1, hb1⟩
  have HB2 : Hid (Below w.heap.size w w2) := HB1.out.trans (hb1.mono HB1.out.size)
  clear hb1 hB HB1
  go_wp2_with fail
  refine (hC _).mono ?_
  rintro e w3 ⟨s2, rfl, HL2, hb1⟩
  have HB3 : Hid (Below w.heap.size w w3) := HB2.out.trans (hb1.mono HB2.out.size)
  clear hb1 hC HB2
  go_wp2_with fail
  refine (hD _).mono ?_
  rintro e w4 ⟨s3, rfl, HL3, hb1⟩
  have HB4 : Hid (Below w.heap.size w w4) := HB3.out.trans (hb1.mono HB3.out.size)
  clear hb1 hD HB3
  have HF4 : Hid (Four (w4.alloc (Obj.cells #[.string s0, .string s1, .string s2, .string s3] 9)) w4.heap.size s0 s1 s2 s3) := ⟨by simp, by simp, by simp, by simp, by simp⟩
  have HB5 : Hid (Below w.heap.size w (w4.alloc (Obj.cells #[.string s0, .string s1, .string s2, .string s3] 9))) := HB4.out.alloc HB4.out.size _
  obtain ⟨q, hq⟩ : ∃ q, q = w4.heap.size := ⟨_, rfl⟩
  rw [← hq] at HF4
  have hsm4 := small_of (ls := [s0, s1, s2, s3]) (by intro s hs; simp at hs; rcases hs with rfl | rfl | rfl | rfl <;> first | exact HL0.out.hi | exact HL1.out.hi | exact HL2.out.hi | exact HL3.out.hi)
  have hall4 : [s0, s1, s2, s3].all allDig = true := by simp [HL0.out.dig, HL1.out.dig, HL2.out.dig, HL3.out.dig]
  have hsm3 := small_of (ls := [s1, s2, s3]) (by intro s hs; simp at hs; rcases hs with rfl | rfl | rfl <;> first | exact HL1.out.hi | exact HL2.out.hi | exact HL3.out.hi)
  have HS4 : Hid (∀ (i : Nat) (s : ByteArray), [s0, s1, s2, s3][i]? = some s → s.size ≤ 63) := hsm4
  have HS3 : Hid (∀ (i : Nat) (s : ByteArray), [s1, s2, s3][i]? = some s → s.size ≤ 63) := hsm3
  have HA4 : Hid ([s0, s1, s2, s3].all allDig = true) := hall4
  clear hsm4 hsm3 hall4 HB4
  go_wp2_with fail
  rw [← hq]
  refine (wire_any (some ⟨q, 0, none⟩) 4 4 [s0, s1, s2, s3] _ rfl (sat4 HF4.out.c0 HF4.out.c1 HF4.out.c2 HF4.out.c3) HS4.out (by omega) (by omega)).mono ?_
  rintro e w5 ⟨rfl, hb1⟩
  have HF5 : Hid (Four w5 q s0 s1 s2 s3) := HF4.out.below hb1
  have HB6 : Hid (Below w.heap.size w w5) := HB5.out.trans (hb1.mono HB5.out.size)
  clear hb1 HF4 HB5 hq
  obtain ⟨W4, hW4⟩ : ∃ W4 : ByteArray, W4 = ⟨(wireF [s0, s1, s2, s3]).toArray⟩ := ⟨_, rfl⟩
  rw [← hW4]
  have HW4 : Hid (W4 = ⟨(wireF [s0, s1, s2, s3]).toArray⟩) := hW4
  clear hW4
  go_wp2_with fail
  refine (name_any W4 _).mono ?_
  rintro e w6 ⟨rfl, hb1⟩
  have HF6 : Hid (Four w6 q s0 s1 s2 s3) := HF5.out.below hb1
  have HB7 : Hid (Below w.heap.size w w6) := HB6.out.trans (hb1.mono HB6.out.size)
  clear hb1 HF5 HB6
  go_wp2_with fail
  refine (zzaddr_any [s0, s1, s2, s3] W4 _ HW4.out HS4.out (by simp) (by simp)).mono ?_
  rintro e w7 ⟨⟨v, rfl, hv, _⟩, hb1⟩
  obtain rfl : v = true := hv HA4.out
  have HF7 : Hid (Four w7 q s0 s1 s2 s3) := HF6.out.below hb1
  have HB8 : Hid (Below w.heap.size w w7) := HB7.out.trans (hb1.mono HB7.out.size)
  clear hb1 HF6 HB7 hv
  go_wp2_with fail
  refine (wire_any (some ⟨q, 1, none⟩) 3 3 [s1, s2, s3] _ rfl (sat3 HF7.out.c1 HF7.out.c2 HF7.out.c3) HS3.out (by omega) (by omega)).mono ?_
  rintro e w8 ⟨rfl, hb1⟩
  have HF8 : Hid (Four w8 q s0 s1 s2 s3) := HF7.out.below hb1
  have HB9 : Hid (Below w.heap.size w w8) := HB8.out.trans (hb1.mono HB8.out.size)
  clear hb1 HF7 HB8
  obtain ⟨W3, hW3⟩ : ∃ W3 : ByteArray, W3 = ⟨(wireF [s1, s2, s3]).toArray⟩ := ⟨_, rfl⟩
  rw [← hW3]
  have HW3 : Hid (W3 = ⟨(wireF [s1, s2, s3]).toArray⟩) := hW3
  clear hW3
  go_wp2_with fail
  refine (name_any W3 _).mono ?_
  rintro e w9 ⟨rfl, hb1⟩
  have HF9 : Hid (Four w9 q s0 s1 s2 s3) := HF8.out.below hb1
  have HB10 : Hid (Below w.heap.size w w9) := HB9.out.trans (hb1.mono HB9.out.size)
  clear hb1 HF8 HB9
  go_wp2_with fail
  refine (zzaddr_any [s1, s2, s3] W3 _ HW3.out HS3.out (by simp) (by simp)).mono ?_
  rintro e w10 ⟨⟨v, rfl, _, hv⟩, hb1⟩
  obtain rfl : v = false := hv (by simp)
  have HF10 : Hid (Four w10 q s0 s1 s2 s3) := HF9.out.below hb1
  have HB11 : Hid (Below w.heap.size w w10) := HB10.out.trans (hb1.mono HB10.out.size)
  clear hb1 HF9 HB10 hv
  by_cases hx0 : 1 ≤ x.size ∧ x.size ≤ 63
  rotate_left
  · by_cases hx1 : 1 ≤ x.size
    · go_wp2
      go_ret
      exact ⟨rfl, HB11.out⟩
    · go_wp2
      go_ret
      exact ⟨rfl, HB11.out⟩
  obtain ⟨hx1, hx2⟩ := hx0
  have hc0 := HF10.out.c0
  have hc1 := HF10.out.c1
  have hc2 := HF10.out.c2
  have hc3 := HF10.out.c3
  go_wp2_with fail
  go_region
  have HA5 : Hid (SAt (w10.alloc (Obj.cells #[.string x, .string s0, .string s1, .string s2, .string s3] 9)).drew (some ⟨w10.heap.size, 0, none⟩) [x, s0, s1, s2, s3]) := sat5 (by simp) (by simp) (by simp) (by simp) (by simp)
  have HB12 : Hid (Below w.heap.size w (w10.alloc (Obj.cells #[.string x, .string s0, .string s1, .string s2, .string s3] 9)).drew) := (HB11.out.alloc HB11.out.size _).drew
  have hsm5 := small_of (ls := [x, s0, s1, s2, s3]) (by intro s hs; simp at hs; rcases hs with rfl | rfl | rfl | rfl | rfl <;> first | exact hx2 | exact HL0.out.hi | exact HL1.out.hi | exact HL2.out.hi | exact HL3.out.hi)
  have HS5 : Hid (∀ (i : Nat) (s : ByteArray), [x, s0, s1, s2, s3][i]? = some s → s.size ≤ 63) := hsm5
  obtain ⟨q5, hq5⟩ : ∃ q5, q5 = w10.heap.size := ⟨_, rfl⟩
  rw [← hq5] at HA5
  clear hsm5 hc0 hc1 hc2 hc3 HB11 HF10
  go_wp2_with fail
  rw [← hq5]
  refine (wire_any (some ⟨q5, 0, none⟩) 5 5 [x, s0, s1, s2, s3] _ rfl HA5.out HS5.out (by omega) (by omega)).mono ?_
  rintro e w11 ⟨rfl, hb1⟩
  have HB13 : Hid (Below w.heap.size w w11) := HB12.out.trans (hb1.mono HB12.out.size)
  clear hb1 HA5 HB12 hq5
  obtain ⟨W5, hW5⟩ : ∃ W5 : ByteArray, W5 = ⟨(wireF [x, s0, s1, s2, s3]).toArray⟩ := ⟨_, rfl⟩
  rw [← hW5]
  have HW5 : Hid (W5 = ⟨(wireF [x, s0, s1, s2, s3]).toArray⟩) := hW5
  clear hW5
  go_wp2_with fail
  refine (name_any W5 _).mono ?_
  rintro e w12 ⟨rfl, hb1⟩
  have HB14 : Hid (Below w.heap.size w w12) := HB13.out.trans (hb1.mono HB13.out.size)
  clear hb1 HB13
  go_wp2_with fail
  refine (zzaddr_any [x, s0, s1, s2, s3] W5 _ HW5.out HS5.out (by simp) (by simp)).mono ?_
  rintro e w13 ⟨⟨v, rfl, _, hv⟩, hb1⟩
  obtain rfl : v = false := hv (by simp)
  have HB15 : Hid (Below w.heap.size w w13) := HB14.out.trans (hb1.mono HB14.out.size)
  clear hb1 HB14 hv
  go_wp2
  go_ret
  exact ⟨rfl, HB15.out⟩
end Go.Proofs.Qxb6003357aDoor
