/-
  The walk of (*eventParser).line.
-/
import Derived.Test.Qxb6002908aDoorIdx3
namespace Go.Proofs.Qxb6002908aDoor
open Go.RowKit Go.Shelf Go.Lib

/-- What the parser's block holds, as far as line reads and writes it. -/
structure PAt (w : World) (P : Nat) (v : Value) (pos sc : Nat) : Prop where
  c0 : w.cell? ⟨P, 0, none⟩ = some v
  c2 : w.cell? ⟨P, 2, none⟩ = some (.int .i64 (pos : Int))
  c3 : w.cell? ⟨P, 3, none⟩ = some (.int .i64 (sc : Int))
  f2 : w.frozen? ⟨P, 2, none⟩ = false
  f3 : w.frozen? ⟨P, 3, none⟩ = false

theorem PAt.below {w w' : World} {P : Nat} {v : Value} {pos sc : Nat} (h : PAt w P v pos sc) (hb : Below w.heap.size w w') : PAt w' P v pos sc := by
  have hp : P < w.heap.size := World.block_lt_of_cell? _ _ h.c0
  exact ⟨(hb.cell (p := ⟨P, 0, none⟩) hp).trans h.c0, (hb.cell (p := ⟨P, 2, none⟩) hp).trans h.c2, (hb.cell (p := ⟨P, 3, none⟩) hp).trans h.c3, (hb.frozen (p := ⟨P, 2, none⟩) hp).trans h.f2, (hb.frozen (p := ⟨P, 3, none⟩) hp).trans h.f3⟩

theorem PAt.set3 {w : World} {P : Nat} {v : Value} {pos sc : Nat} (h : PAt w P v pos sc) (k : Nat) (x : Int) (hx : x = (k : Int)) : PAt (w.setCell ⟨P, 3, none⟩ (.int .i64 x)) P v pos k := by
  subst hx
  exact ⟨(World.cell?_setCell_other _ _ _ _ (by simp)).trans h.c0, (World.cell?_setCell_other _ _ _ _ (by simp)).trans h.c2, World.cell?_setCell_same _ _ _ h.c3, by simpa using h.f2, by simpa using h.f3⟩
theorem PAt.set2 {w : World} {P : Nat} {v : Value} {pos sc : Nat} (h : PAt w P v pos sc) (k : Nat) (x : Int) (hx : x = (k : Int)) : PAt (w.setCell ⟨P, 2, none⟩ (.int .i64 x)) P v k sc := by
  subst hx
  exact ⟨(World.cell?_setCell_other _ _ _ _ (by simp)).trans h.c0, World.cell?_setCell_same _ _ _ h.c2, (World.cell?_setCell_other _ _ _ _ (by simp)).trans h.c3, by simpa using h.f2, by simpa using h.f3⟩

set_option maxHeartbeats 400000 in
/-- Nothing is left to read. -/
theorem line_end (P : Nat) (p : Option Addr) (n c : Nat) (fin : Bool) (w : World) (hnc : n ≤ c) (hP : PAt w P (.slice p n c) n 0) :
    Calls Tryd.prog 13 #[.pointer (some ⟨P, 0, none⟩), .bool fin] w fun e w' => e = .returned (.tuple #[.slice none 0 0, .bool false]) ∧ PAt w' P (.slice p n c) n 0 ∧ Below P w w' := by
  have hPB : P < w.heap.size := World.block_lt_of_cell? _ _ hP.c0
  have HPA : Hid (PAt w P (.slice p n c) n 0) := hP
  obtain ⟨c0, c2, c3, f2, f3⟩ := hP
  by_cases hcn : c = n
  all_goals
    go_enter Tryd.func13, Tryd.ntmps13
    go_wp2_with fail
    go_quiet (fail)
    go_wp2_with fail
    refine (idx_zero _ _ _).mono ?_
    rintro e w2 ⟨rfl, hB⟩
    have hB2 : Below w.heap.size w w2 := (below_drewN (Below.refl w.heap.size w) nq).trans hB
    have HQ := HPA.out.below hB2
    have HQ2 : Hid (PAt w2 P (.slice p n c) n 0) := HQ
    obtain ⟨d0, d2, d3, g2, g3⟩ := HQ
    clear hB c0 c2 c3 f2 f3
    go_wp2
    go_ret2
    exact ⟨rfl, HQ2.out.set3 0 _ (by simp), (hB2.mono (Nat.le_of_lt hPB)).setCell (Nat.le_refl _) _⟩

/-- The parser's rest. -/
structure LineIn (w : World) (P b o n c pos sc : Nat) (l : List UInt8) : Prop where
  len : l.length = n
  nc : n ≤ c
  big : c ≤ 9223372036854775807
  small : n ≤ 1048576
  hpos : pos < n
  hsc : sc ≤ n - pos
  libs : Libs w
  cell : ∀ (i : Nat) x, l[i]? = some x → w.cell? ⟨b, o + i, none⟩ = some (.int .u8 (x.toNat : Int))
  at' : PAt w P (.slice (some ⟨b, o, none⟩) n c) pos sc

theorem LineIn.bat {w : World} {P b o n c pos sc : Nat} {l : List UInt8} (h : LineIn w P b o n c pos sc l) (k : Nat) : BAt w (some ⟨b, o + k, none⟩) (l.drop k) := fun _ =>
  ⟨b, o + k, rfl, fun i x hx => by
    rw [List.getElem?_drop] at hx
    rw [Nat.add_assoc]
    exact h.cell _ _ hx⟩

set_option maxHeartbeats 400000 in
/-- All that is left has been looked through. -/
theorem line_tail (P b o n c pos sc : Nat) (l : List UInt8) (fin : Bool) (w : World) (h : LineIn w P b o n c pos sc l) (hs : sc = n - pos) :
    Calls Tryd.prog 13 #[.pointer (some ⟨P, 0, none⟩), .bool fin] w fun e w' => e = .returned (.tuple #[.slice none 0 0, .bool false]) ∧ PAt w' P (.slice (some ⟨b, o, none⟩) n c) pos (n - pos) ∧ Below P w w' := by
  subst hs
  have hPB : P < w.heap.size := World.block_lt_of_cell? _ _ h.at'.c0
  have HPA : Hid (PAt w P (.slice (some ⟨b, o, none⟩) n c) pos (n - pos)) := h.at'
  have g1 := h.nc; have g2 := h.big; have g3 := h.small; have g4 := h.hpos
  obtain ⟨c0, c2, c3, f2, f3⟩ := h.at'
  have hcp : ¬ c = pos := by omega
  have hps : ((n - pos : Nat) : Int) = (n : Int) - (pos : Int) := by omega
  rw [hps] at c3
  clear h
  by_cases hcn : c - pos = n - pos
  all_goals
    go_enter Tryd.func13, Tryd.ntmps13
    go_wp2_with fail
    go_quiet (fail)
    go_wp2_with fail
    refine (idx_zero _ _ _).mono ?_
    rintro e w2 ⟨rfl, hB⟩
    have hB2 : Below w.heap.size w w2 := (below_drewN (Below.refl w.heap.size w) nq).trans hB
    have HQ := HPA.out.below hB2
    have HQ2 : Hid (PAt w2 P (.slice (some ⟨b, o, none⟩) n c) pos (n - pos)) := HQ
    obtain ⟨d0, d2, d3, e2, e3⟩ := HQ
    clear hB c0 c2 c3 f2 f3
    go_wp2
    go_ret2
    exact ⟨rfl, HQ2.out.set3 (n - pos) _ (by omega), (hB2.mono (Nat.le_of_lt hPB)).setCell (Nat.le_refl _) _⟩

set_option maxHeartbeats 400000 in
/-- No line end in what is left. -/
theorem line_none (P b o n c pos sc : Nat) (l : List UInt8) (fin : Bool) (w : World) (h : LineIn w P b o n c pos sc l) (hs : sc < n - pos) (hix : Lib.indexAny (l.drop (pos + sc)) [13, 10] = -1) :
    Calls Tryd.prog 13 #[.pointer (some ⟨P, 0, none⟩), .bool fin] w fun e w' => e = .returned (.tuple #[.slice none 0 0, .bool false]) ∧ PAt w' P (.slice (some ⟨b, o, none⟩) n c) pos (n - pos) ∧ Below P w w' := by
  have hPB : P < w.heap.size := World.block_lt_of_cell? _ _ h.at'.c0
  have HPA : Hid (PAt w P (.slice (some ⟨b, o, none⟩) n c) pos sc) := h.at'
  have g1 := h.nc; have g2 := h.big; have g3 := h.small; have g4 := h.hpos
  obtain ⟨c0, c2, c3, f2, f3⟩ := h.at'
  have hcp : ¬ c = pos := by omega
  have hcs : ¬ c - pos = sc := by omega
  have HI : Hid (∀ W, Below w.heap.size w W → Calls Tryd.prog 14 #[.slice (some ⟨b, o + pos + sc, none⟩) (n - pos - sc) (c - pos - sc), .string ⟨#[13, 10]⟩] W fun e w' => e = .returned (.int .i64 (-1)) ∧ Below W.heap.size W w') := fun W hW => by
    have := idx_any (l.drop (pos + sc)) (some ⟨b, o + pos + sc, none⟩) (n - pos - sc) (c - pos - sc) W (by rw [List.length_drop, h.len]; omega) (by omega) (by omega) (h.libs.below hW) (BAt.below (by have := h.bat (pos + sc); rwa [← Nat.add_assoc] at this) hW (rfl : 0 = 0))
    rw [hix] at this
    exact this
  clear h hix
  go_enter Tryd.func13, Tryd.ntmps13
  go_wp2_with fail
  go_quiet (fail)
  go_wp2_with fail
  refine (HI.out _ (below_drewN (Below.refl _ _) _)).mono ?_
  rintro e w2 ⟨rfl, hB⟩
  have hB2 : Below w.heap.size w w2 := (below_drewN (Below.refl w.heap.size w) nq).trans hB
  have HQ := HPA.out.below hB2
  have HQ2 : Hid (PAt w2 P (.slice (some ⟨b, o, none⟩) n c) pos sc) := HQ
  obtain ⟨d0, d2, d3, e2, e3⟩ := HQ
  clear hB c0 c2 c3 f2 f3
  go_wp2
  go_ret2
  exact ⟨rfl, HQ2.out.set3 (n - pos) _ (by omega), (hB2.mono (Nat.le_of_lt hPB)).setCell (Nat.le_refl _) _⟩

/-- What the walks over a found line end share. -/
structure Found (w : World) (P b o n c pos sc j : Nat) (x : UInt8) (l : List UInt8) : Prop where
  inn : LineIn w P b o n c pos sc l
  idx : Lib.indexAny (l.drop (pos + sc)) [13, 10] = (j : Int)
  room : j + sc < n - pos
  atx : l[pos + (j + sc)]? = some x

theorem Found.call {w : World} {P b o n c pos sc j : Nat} {x : UInt8} {l : List UInt8} (h : Found w P b o n c pos sc j x l) (W : World) (hW : Below w.heap.size w W) :
    Calls Tryd.prog 14 #[.slice (some ⟨b, o + pos + sc, none⟩) (n - pos - sc) (c - pos - sc), .string ⟨#[13, 10]⟩] W fun e w' => e = .returned (.int .i64 (j : Int)) ∧ Below W.heap.size W w' := by
  have g1 := h.inn.nc; have g2 := h.inn.big; have g3 := h.inn.small; have g4 := h.inn.hpos; have g5 := h.room
  have := idx_any (l.drop (pos + sc)) (some ⟨b, o + pos + sc, none⟩) (n - pos - sc) (c - pos - sc) W (by rw [List.length_drop, h.inn.len]; omega) (by omega) (by omega) (h.inn.libs.below hW) (BAt.below (by have := h.inn.bat (pos + sc); rwa [← Nat.add_assoc] at this) hW (rfl : 0 = 0))
  rw [h.idx] at this
  exact this
theorem LineIn.rd {w : World} {P b o n c pos sc : Nat} {l : List UInt8} (h : LineIn w P b o n c pos sc l) {W : World} (hW : Below w.heap.size w W) {k : Nat} {x : UInt8} (hx : l[pos + k]? = some x) : W.cell? ⟨b, o + pos + k, none⟩ = some (.int .u8 (x.toNat : Int)) := by
  have h1 := h.cell _ _ hx
  rw [← Nat.add_assoc] at h1
  exact (hW.cell (p := ⟨b, o + pos + k, none⟩) (World.block_lt_of_cell? _ _ h1)).trans h1

set_option maxHeartbeats 400000 in
/-- A CR as the last byte, and more may come. -/
theorem line_held (P b o n c pos sc j : Nat) (x : UInt8) (l : List UInt8) (w : World) (h : Found w P b o n c pos sc j x l) (hx : x = 13) (hend : j + sc + 1 = n - pos) :
    Calls Tryd.prog 13 #[.pointer (some ⟨P, 0, none⟩), .bool false] w fun e w' => e = .returned (.tuple #[.slice none 0 0, .bool false]) ∧ PAt w' P (.slice (some ⟨b, o, none⟩) n c) pos (j + sc) ∧ Below P w w' := by
  have hPB : P < w.heap.size := World.block_lt_of_cell? _ _ h.inn.at'.c0
  have HPA : Hid (PAt w P (.slice (some ⟨b, o, none⟩) n c) pos sc) := h.inn.at'
  have g1 := h.inn.nc; have g2 := h.inn.big; have g3 := h.inn.small; have g4 := h.inn.hpos; have g5 := h.room
  obtain ⟨c0, c2, c3, f2, f3⟩ := h.inn.at'
  have hcp : ¬ c = pos := by omega
  have hcs : ¬ c - pos = sc := by omega
  have HF : Hid (Found w P b o n c pos sc j x l) := h
  have HE : Hid (j + sc + 1 = n - pos) := hend
  have heq : ((j : Int) + (sc : Int) + 1 == ((n - pos : Nat) : Int)) = true := by rw [beq_iff_eq]; omega
  clear h hend
  subst hx
  go_enter Tryd.func13, Tryd.ntmps13
  go_wp2_with fail
  go_quiet (fail)
  go_wp2_with fail
  refine (HF.out.call _ (below_drewN (Below.refl _ _) _)).mono ?_
  rintro e w2 ⟨rfl, hB⟩
  have hB2 : Below w.heap.size w w2 := (below_drewN (Below.refl w.heap.size w) nq).trans hB
  have HQ := HPA.out.below hB2
  have HQ2 : Hid (PAt w2 P (.slice (some ⟨b, o, none⟩) n c) pos sc) := HQ
  have hcx := HF.out.inn.rd hB2 HF.out.atx
  obtain ⟨d0, d2, d3, e2, e3⟩ := HQ
  clear hB c0 c2 c3 f2 f3
  go_wp2
  go_ret2
  exact ⟨rfl, HQ2.out.set3 (j + sc) _ (by omega), (hB2.mono (Nat.le_of_lt hPB)).setCell (Nat.le_refl _) _⟩

set_option maxHeartbeats 400000 in
/-- A line, its end one byte: an LF; or a CR that is the last byte of all; or a CR with another byte than LF behind it. -/
theorem line_got1 (P b o n c pos sc j : Nat) (x : UInt8) (l : List UInt8) (fin : Bool) (w : World) (h : Found w P b o n c pos sc j x l)
    (hx : x = 10 ∨ (x = 13 ∧ j + sc + 1 = n - pos ∧ fin = true) ∨ (x = 13 ∧ ∃ y : UInt8, l[pos + (j + sc + 1)]? = some y ∧ y ≠ 10)) :
    Calls Tryd.prog 13 #[.pointer (some ⟨P, 0, none⟩), .bool fin] w fun e w' => e = .returned (.tuple #[.slice (some ⟨b, o + pos, none⟩) (j + sc) (c - pos), .bool true]) ∧ PAt w' P (.slice (some ⟨b, o, none⟩) n c) (pos + (j + sc + 1)) 0 ∧ Below P w w' := by
  have hPB : P < w.heap.size := World.block_lt_of_cell? _ _ h.inn.at'.c0
  have HPA : Hid (PAt w P (.slice (some ⟨b, o, none⟩) n c) pos sc) := h.inn.at'
  have g1 := h.inn.nc; have g2 := h.inn.big; have g3 := h.inn.small; have g4 := h.inn.hpos; have g5 := h.room
  obtain ⟨c0, c2, c3, f2, f3⟩ := h.inn.at'
  have hcp : ¬ c = pos := by omega
  have hcs : ¬ c - pos = sc := by omega
  have HF : Hid (Found w P b o n c pos sc j x l) := h
  clear h
  rcases hx with rfl | ⟨rfl, hend, rfl⟩ | ⟨rfl, y, hy, hy10⟩
  · go_enter Tryd.func13, Tryd.ntmps13
    go_wp2_with fail
    go_quiet (fail)
    go_wp2_with fail
    refine (HF.out.call _ (below_drewN (Below.refl _ _) _)).mono ?_
    rintro e w2 ⟨rfl, hB⟩
    have hB2 : Below w.heap.size w w2 := (below_drewN (Below.refl w.heap.size w) nq).trans hB
    have HQ := HPA.out.below hB2
    have HQ2 : Hid (PAt w2 P (.slice (some ⟨b, o, none⟩) n c) pos sc) := HQ
    have hcx := HF.out.inn.rd hB2 HF.out.atx
    obtain ⟨d0, d2, d3, e2, e3⟩ := HQ
    clear hB c0 c2 c3 f2 f3
    go_wp2
    go_ret2
    exact ⟨rfl, (HQ2.out.set2 (pos + (j + sc + 1)) _ (by omega)).set3 0 _ rfl, ((hB2.mono (Nat.le_of_lt hPB)).setCell (Nat.le_refl _) _).setCell (Nat.le_refl _) _⟩
  · have HE : Hid (j + sc + 1 = n - pos) := hend
    have heq : ((j : Int) + (sc : Int) + 1 == ((n - pos : Nat) : Int)) = true := by rw [beq_iff_eq]; omega
    have hlt : ¬ ((j : Int) + (sc : Int) + 1 < ((n - pos : Nat) : Int)) := by omega
    clear hend
    go_enter Tryd.func13, Tryd.ntmps13
    go_wp2_with fail
    go_quiet (fail)
    go_wp2_with fail
    refine (HF.out.call _ (below_drewN (Below.refl _ _) _)).mono ?_
    rintro e w2 ⟨rfl, hB⟩
    have hB2 : Below w.heap.size w w2 := (below_drewN (Below.refl w.heap.size w) nq).trans hB
    have HQ := HPA.out.below hB2
    have HQ2 : Hid (PAt w2 P (.slice (some ⟨b, o, none⟩) n c) pos sc) := HQ
    have hcx := HF.out.inn.rd hB2 HF.out.atx
    obtain ⟨d0, d2, d3, e2, e3⟩ := HQ
    clear hB c0 c2 c3 f2 f3
    go_wp2
    go_ret2
    exact ⟨rfl, (HQ2.out.set2 (pos + (j + sc + 1)) _ (by omega)).set3 0 _ rfl, ((hB2.mono (Nat.le_of_lt hPB)).setCell (Nat.le_refl _) _).setCell (Nat.le_refl _) _⟩
  · have hyr : pos + (j + sc + 1) < n := by rw [← HF.out.inn.len]; exact (List.getElem?_eq_some_iff.1 hy).1
    have heq : ((j : Int) + (sc : Int) + 1 == ((n - pos : Nat) : Int)) = false := by rw [beq_eq_false_iff_ne]; omega
    have hlt : (j : Int) + (sc : Int) + 1 < ((n - pos : Nat) : Int) := by omega
    have hyb : ((y.toNat : Int) == 10) = false := by
      rw [beq_eq_false_iff_ne]
      intro h
      exact hy10 (UInt8.toNat_inj.1 (by simpa using (by omega : y.toNat = 10)))
    have HY : Hid (l[pos + (j + sc + 1)]? = some y) := hy
    clear hy hy10
    go_enter Tryd.func13, Tryd.ntmps13
    go_wp2_with fail
    go_quiet (fail)
    go_wp2_with fail
    refine (HF.out.call _ (below_drewN (Below.refl _ _) _)).mono ?_
    rintro e w2 ⟨rfl, hB⟩
    have hB2 : Below w.heap.size w w2 := (below_drewN (Below.refl w.heap.size w) nq).trans hB
    have HQ := HPA.out.below hB2
    have HQ2 : Hid (PAt w2 P (.slice (some ⟨b, o, none⟩) n c) pos sc) := HQ
    have hcx := HF.out.inn.rd hB2 HF.out.atx
    have hcy := HF.out.inn.rd hB2 HY.out
    obtain ⟨d0, d2, d3, e2, e3⟩ := HQ
    clear hB c0 c2 c3 f2 f3
    go_wp2
    go_ret2
    exact ⟨rfl, (HQ2.out.set2 (pos + (j + sc + 1)) _ (by omega)).set3 0 _ rfl, ((hB2.mono (Nat.le_of_lt hPB)).setCell (Nat.le_refl _) _).setCell (Nat.le_refl _) _⟩

set_option maxHeartbeats 400000 in
/-- A line, its end CR LF. -/
theorem line_got2 (P b o n c pos sc j : Nat) (l : List UInt8) (fin : Bool) (w : World) (h : Found w P b o n c pos sc j 13 l) (hy : l[pos + (j + sc + 1)]? = some 10) :
    Calls Tryd.prog 13 #[.pointer (some ⟨P, 0, none⟩), .bool fin] w fun e w' => e = .returned (.tuple #[.slice (some ⟨b, o + pos, none⟩) (j + sc) (c - pos), .bool true]) ∧ PAt w' P (.slice (some ⟨b, o, none⟩) n c) (pos + (j + sc + 2)) 0 ∧ Below P w w' := by
  have hPB : P < w.heap.size := World.block_lt_of_cell? _ _ h.inn.at'.c0
  have HPA : Hid (PAt w P (.slice (some ⟨b, o, none⟩) n c) pos sc) := h.inn.at'
  have g1 := h.inn.nc; have g2 := h.inn.big; have g3 := h.inn.small; have g4 := h.inn.hpos; have g5 := h.room
  obtain ⟨c0, c2, c3, f2, f3⟩ := h.inn.at'
  have hcp : ¬ c = pos := by omega
  have hcs : ¬ c - pos = sc := by omega
  have HF : Hid (Found w P b o n c pos sc j 13 l) := h
  clear h
  have hyr : pos + (j + sc + 1) < n := by rw [← HF.out.inn.len]; exact (List.getElem?_eq_some_iff.1 hy).1
  have heq : ((j : Int) + (sc : Int) + 1 == ((n - pos : Nat) : Int)) = false := by rw [beq_eq_false_iff_ne]; omega
  have hlt : (j : Int) + (sc : Int) + 1 < ((n - pos : Nat) : Int) := by omega
  have HY : Hid (l[pos + (j + sc + 1)]? = some 10) := hy
  clear hy
  go_enter Tryd.func13, Tryd.ntmps13
  go_wp2_with fail
  go_quiet (fail)
  go_wp2_with fail
  refine (HF.out.call _ (below_drewN (Below.refl _ _) _)).mono ?_
  rintro e w2 ⟨rfl, hB⟩
  have hB2 : Below w.heap.size w w2 := (below_drewN (Below.refl w.heap.size w) nq).trans hB
  have HQ := HPA.out.below hB2
  have HQ2 : Hid (PAt w2 P (.slice (some ⟨b, o, none⟩) n c) pos sc) := HQ
  have hcx := HF.out.inn.rd hB2 HF.out.atx
  have hcy := HF.out.inn.rd hB2 HY.out
  obtain ⟨d0, d2, d3, e2, e3⟩ := HQ
  clear hB c0 c2 c3 f2 f3
  go_wp2
  go_ret2
  exact ⟨rfl, (HQ2.out.set2 (pos + (j + sc + 2)) _ (by omega)).set3 0 _ rfl, ((hB2.mono (Nat.le_of_lt hPB)).setCell (Nat.le_refl _) _).setCell (Nat.le_refl _) _⟩
end Go.Proofs.Qxb6002908aDoor
