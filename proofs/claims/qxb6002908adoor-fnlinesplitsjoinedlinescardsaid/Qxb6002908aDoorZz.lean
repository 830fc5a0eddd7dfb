/-
  The walk of ZZLine.
-/
import Derived.Test.Qxb6002908aDoorLine
namespace Go.Proofs.Qxb6002908aDoor
open Go.RowKit Go.Shelf Go.Lib

set_option maxHeartbeats 400000 in
theorem zzline (p : Option Addr) (n c pos sc : Nat) (fin : Bool) (w : World) (lv : Value) (ok : Bool) (np ns : Nat)
    (hl : Hid (∀ W, PAt W w.heap.size (.slice p n c) pos sc → Below w.heap.size w W → Calls Tryd.prog 13 #[.pointer (some ⟨w.heap.size, 0, none⟩), .bool fin] W fun e w' => e = .returned (.tuple #[lv, .bool ok]) ∧ PAt w' w.heap.size (.slice p n c) np ns ∧ Below w.heap.size W w')) :
    Calls Tryd.prog 8 #[.slice p n c, .int .i64 (pos : Int), .int .i64 (sc : Int), .bool fin] w fun e w' => e = .returned (.tuple #[lv, .bool ok, .int .i64 (np : Int), .int .i64 (ns : Int)]) ∧ Below w.heap.size w w' := by
  go_enter Tryd.func8, Tryd.ntmps8
  go_wp2_with fail
  refine (hl.out _ ⟨by simp, by simp, by simp, by simp, by simp⟩ ((Below.refl _ _).alloc (Nat.le_refl _) _)).mono ?_
  rintro e w2 ⟨rfl, hQ, hB⟩
  obtain ⟨d0, d2, d3, e2, e3⟩ := hQ
  go_wp2_with fail
  go_quiet (fail)
  go_wp2
  exact bodyPost_ret (v := .tuple #[lv, .bool ok, .int .i64 (np : Int), .int .i64 (ns : Int)]) (by simp [results, Tryd.results8, go_sem]) rfl ⟨rfl, below_drewN (((Below.refl _ _).alloc (Nat.le_refl _) _).trans hB) _⟩

/-- A buffer of the bytes l. -/
structure BufIn (w : World) (p : Option Addr) (n c : Nat) (l : List UInt8) : Prop where
  len : l.length = n
  nc : n ≤ c
  big : c ≤ 9223372036854775807
  small : n ≤ 1048576
  libs : Libs w
  bat : BAt w p l

theorem BufIn.below {w w' : World} {p : Option Addr} {n c : Nat} {l : List UInt8} (h : BufIn w p n c l) (hb : Below w.heap.size w w') : BufIn w' p n c l :=
  ⟨h.len, h.nc, h.big, h.small, h.libs.below hb, BAt.below h.bat hb (rfl : 0 = 0)⟩

theorem BufIn.ne {w : World} {p : Option Addr} {n c : Nat} {l : List UInt8} (h : BufIn w p n c l) {pos : Nat} (hp : pos < n) : ∃ b o, p = some ⟨b, o, none⟩ ∧ ∀ (i : Nat) x, l[i]? = some x → w.cell? ⟨b, o + i, none⟩ = some (.int .u8 (x.toNat : Int)) :=
  h.bat.at (fun e => by have := h.len; rw [e] at this; simp at this; omega)

theorem BufIn.lineIn {w : World} {b o n c : Nat} {l : List UInt8} (h : BufIn w (some ⟨b, o, none⟩) n c l) {pos sc P : Nat} (hp : pos < n) (hs : sc ≤ n - pos) (hat : PAt w P (.slice (some ⟨b, o, none⟩) n c) pos sc) : LineIn w P b o n c pos sc l := by
  obtain ⟨b', o', e, hc⟩ := h.ne hp
  simp only [Option.some.injEq, Addr.mk.injEq, and_true] at e
  obtain ⟨rfl, rfl⟩ := e
  exact ⟨h.len, h.nc, h.big, h.small, hp, hs, h.libs, hc, hat⟩

theorem zz_none {w : World} {p : Option Addr} {n c : Nat} {l : List UInt8} (h : BufIn w p n c l) {pos sc : Nat} (fin : Bool) (hpos : pos ≤ n) (hsc : sc ≤ n - pos) (hno : Lib.NoAny (l.drop pos) [13, 10] (n - pos)) :
    Calls Tryd.prog 8 #[.slice p n c, .int .i64 (pos : Int), .int .i64 (sc : Int), .bool fin] w fun e w' => e = .returned (.tuple #[.slice none 0 0, .bool false, .int .i64 (pos : Int), .int .i64 ((n - pos : Nat) : Int)]) ∧ Below w.heap.size w w' := by
  refine zzline p n c pos sc fin w _ _ _ _ fun W hat hW => ?_
  by_cases hpn : pos = n
  · subst hpn
    have hs0 : sc = 0 := by omega
    subst hs0
    have := line_end w.heap.size p pos c fin W h.nc hat
    rwa [Nat.sub_self]
  · have hp : pos < n := by omega
    obtain ⟨b, o, rfl, _⟩ := h.ne hp
    have hli := (h.below hW).lineIn hp hsc hat
    by_cases hs : sc = n - pos
    · exact line_tail _ b o n c pos sc l fin W hli hs
    · refine line_none _ b o n c pos sc l fin W hli (by omega) (Lib.indexAny_none fun j x _ hx => ?_)
      rw [List.getElem?_drop] at hx
      have hlt : pos + sc + j < l.length := (List.getElem?_eq_some_iff.1 hx).1
      have := h.len
      exact hno (sc + j) x (by omega) (by rw [List.getElem?_drop, ← Nat.add_assoc]; exact hx)

/-- The first line end of what is left: at place k, the byte x. -/
structure FirstEnd (r : List UInt8) (k : Nat) (x : UInt8) : Prop where
  no : Lib.NoAny r [13, 10] k
  atk : r[k]? = some x
  isEnd : lend x = true

theorem FirstEnd.found {w : World} {b o n c : Nat} {l : List UInt8} (h : BufIn w (some ⟨b, o, none⟩) n c l) {pos sc P k : Nat} {x : UInt8} (hp : pos < n) (hk : FirstEnd (l.drop pos) k x) (hs : sc ≤ k) (hat : PAt w P (.slice (some ⟨b, o, none⟩) n c) pos sc) :
    Found w P b o n c pos sc (k - sc) x l := by
  have hx : l[pos + k]? = some x := by rw [← List.getElem?_drop]; exact hk.atk
  have hlt : pos + k < l.length := (List.getElem?_eq_some_iff.1 hx).1
  have hl := h.len
  refine ⟨h.lineIn hp (by omega) hat, ?_, by omega, by rw [show pos + (k - sc + sc) = pos + k by omega]; exact hx⟩
  refine Lib.indexAny_hit (fun j y hj hy => hk.no (sc + j) y (by omega) ?_) (x := x) ?_ hk.isEnd
  · rw [List.getElem?_drop] at hy ⊢
    rw [← Nat.add_assoc]; exact hy
  · rw [List.getElem?_drop, show pos + sc + (k - sc) = pos + k by omega]; exact hx

theorem FirstEnd.lt {n pos : Nat} {l : List UInt8} {k : Nat} {x : UInt8} (hk : FirstEnd (l.drop pos) k x) (hl : l.length = n) : pos + k < n := by
  have := (List.getElem?_eq_some_iff.1 hk.atk).1
  rw [List.length_drop] at this
  omega

theorem zz_held {w : World} {p : Option Addr} {n c : Nat} {l : List UInt8} (h : BufIn w p n c l) {pos sc k : Nat} (hk : FirstEnd (l.drop pos) k 13) (hs : sc ≤ k) (hend : k + 1 = n - pos) :
    Calls Tryd.prog 8 #[.slice p n c, .int .i64 (pos : Int), .int .i64 (sc : Int), .bool false] w fun e w' => e = .returned (.tuple #[.slice none 0 0, .bool false, .int .i64 (pos : Int), .int .i64 (k : Int)]) ∧ Below w.heap.size w w' := by
  have hlt := hk.lt h.len
  have hp : pos < n := by omega
  obtain ⟨b, o, rfl, _⟩ := h.ne hp
  refine zzline _ n c pos sc false w _ _ _ _ fun W hat hW => ?_
  have := line_held _ b o n c pos sc (k - sc) 13 l W (FirstEnd.found (h.below hW) hp hk hs hat) rfl (by omega)
  rwa [show k - sc + sc = k by omega] at this

theorem zz_got1 {w : World} {b o n c : Nat} {l : List UInt8} (h : BufIn w (some ⟨b, o, none⟩) n c l) {pos sc k : Nat} {x : UInt8} (fin : Bool) (hk : FirstEnd (l.drop pos) k x) (hs : sc ≤ k)
    (hx : x = 10 ∨ (x = 13 ∧ k + 1 = n - pos ∧ fin = true) ∨ (x = 13 ∧ ∃ y : UInt8, (l.drop pos)[k + 1]? = some y ∧ y ≠ 10)) :
    Calls Tryd.prog 8 #[.slice (some ⟨b, o, none⟩) n c, .int .i64 (pos : Int), .int .i64 (sc : Int), .bool fin] w fun e w' => e = .returned (.tuple #[.slice (some ⟨b, o + pos, none⟩) k (c - pos), .bool true, .int .i64 ((pos + (k + 1) : Nat) : Int), .int .i64 ((0 : Nat) : Int)]) ∧ Below w.heap.size w w' := by
  have hlt := hk.lt h.len
  have hp : pos < n := by omega
  refine zzline _ n c pos sc fin w _ _ _ _ fun W hat hW => ?_
  have := line_got1 _ b o n c pos sc (k - sc) x l fin W (FirstEnd.found (h.below hW) hp hk hs hat) (by
    rw [show k - sc + sc = k by omega]
    rcases hx with h | h | ⟨h, y, h1, h2⟩
    · exact .inl h
    · exact .inr (.inl h)
    · exact .inr (.inr ⟨h, y, by rw [List.getElem?_drop] at h1; exact h1, h2⟩))
  rwa [show k - sc + sc = k by omega] at this

theorem zz_got2 {w : World} {b o n c : Nat} {l : List UInt8} (h : BufIn w (some ⟨b, o, none⟩) n c l) {pos sc k : Nat} (fin : Bool) (hk : FirstEnd (l.drop pos) k 13) (hs : sc ≤ k) (hy : (l.drop pos)[k + 1]? = some 10) :
    Calls Tryd.prog 8 #[.slice (some ⟨b, o, none⟩) n c, .int .i64 (pos : Int), .int .i64 (sc : Int), .bool fin] w fun e w' => e = .returned (.tuple #[.slice (some ⟨b, o + pos, none⟩) k (c - pos), .bool true, .int .i64 ((pos + (k + 2) : Nat) : Int), .int .i64 ((0 : Nat) : Int)]) ∧ Below w.heap.size w w' := by
  have hlt := hk.lt h.len
  have hp : pos < n := by omega
  refine zzline _ n c pos sc fin w _ _ _ _ fun W hat hW => ?_
  have := line_got2 _ b o n c pos sc (k - sc) l fin W (FirstEnd.found (h.below hW) hp hk hs hat) (by
    rw [show k - sc + sc = k by omega, ← List.getElem?_drop]
    exact hy)
  rwa [show k - sc + sc = k by omega] at this
end Go.Proofs.Qxb6002908aDoor
