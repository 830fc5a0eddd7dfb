/-
  Lines joined into one stream, read back one by one: what each call of ZZLine answers.
-/
import Derived.Test.Qxb6002908aDoorZz
namespace Go.Proofs.Qxb6002908aDoor
open Go.RowKit Go.Shelf Go.Lib

def byt (ss : List ByteArray) (k : Nat) : List UInt8 := (ss.getD k ⟨#[]⟩).data.toList
theorem byt_at {ss : List ByteArray} {k : Nat} {s : ByteArray} (h : ss[k]? = some s) : byt ss k = s.data.toList := by
  unfold byt
  rw [List.getD_eq_getElem?_getD, h]
  rfl

/-- The stream of the first k lines. -/
def buf (ps es : List ByteArray) : Nat → List UInt8
  | 0 => []
  | k + 1 => buf ps es k ++ (byt ps k ++ byt es k)

structure VIx (ps es : List ByteArray) (n : Nat) : Prop where
  ends : ∀ i, i < n → byt es i = [10] ∨ byt es i = [13, 10] ∨ byt es i = [13]
  noend : ∀ i, i < n → Lib.NoAny (byt ps i) [13, 10] (byt ps i).length
  next : ∀ i, i + 1 < n → byt es i = [13] → byt ps (i + 1) ≠ []

theorem buf_ext (ps es : List ByteArray) (i : Nat) : ∀ d, ∃ r, buf ps es (i + d) = buf ps es i ++ r
  | 0 => ⟨[], by simp⟩
  | d + 1 => by
    obtain ⟨r, hr⟩ := buf_ext ps es i d
    exact ⟨r ++ (byt ps (i + d) ++ byt es (i + d)), by rw [← Nat.add_assoc, buf, hr, List.append_assoc]⟩

theorem buf_at (ps es : List ByteArray) {i n : Nat} (hi : i < n) : ∃ r, (buf ps es n).drop (buf ps es i).length = byt ps i ++ (byt es i ++ r) ∧ (i + 1 = n → r = []) ∧ (i + 1 < n → ∃ r', r = byt ps (i + 1) ++ r') := by
  obtain ⟨r, hr⟩ := buf_ext ps es (i + 1) (n - (i + 1))
  rw [show i + 1 + (n - (i + 1)) = n by omega] at hr
  refine ⟨r, ?_, fun h => ?_, fun h => ?_⟩
  · rw [hr, buf, List.append_assoc, List.append_assoc, List.drop_left]
  · subst h
    simpa using hr
  · obtain ⟨r2, hr2⟩ := buf_ext ps es (i + 2) (n - (i + 2))
    rw [show i + 2 + (n - (i + 2)) = n by omega] at hr2
    refine ⟨byt es (i + 1) ++ r2, ?_⟩
    rw [hr] at hr2
    have e : buf ps es (i + 2) = buf ps es (i + 1) ++ (byt ps (i + 1) ++ byt es (i + 1)) := rfl
    rw [e, List.append_assoc, List.append_cancel_left_eq] at hr2
    rw [hr2, List.append_assoc]

theorem buf_len (ps es : List ByteArray) (k : Nat) : (buf ps es (k + 1)).length = (buf ps es k).length + ((byt ps k).length + (byt es k).length) := by
  rw [buf, List.length_append, List.length_append]

theorem noAny_app {a b : List UInt8} (h : Lib.NoAny a [13, 10] a.length) : Lib.NoAny (a ++ b) [13, 10] a.length := fun j y hj hy => by
  rw [List.getElem?_append_left hj] at hy
  exact h j y hj hy

theorem app_at {a : List UInt8} {x : UInt8} {t : List UInt8} : (a ++ (x :: t))[a.length]? = some x := by
  rw [List.getElem?_append_right (Nat.le_refl _)]; simp
theorem app_at1 {a : List UInt8} {x y : UInt8} {t : List UInt8} : (a ++ (x :: y :: t))[a.length + 1]? = some y := by
  rw [List.getElem?_append_right (by omega)]; simp

/-- One line that comes out. -/
theorem zz_round {w : World} {p : Option Addr} {N c n : Nat} {ps es : List ByteArray} (h : BufIn w p N c (buf ps es n)) (V : VIx ps es n) {i : Nat} (hi : i < n) (fin : Bool) (hfin : i + 1 = n → byt es i = [13] → fin = true) :
    ∃ b o, p = some ⟨b, o, none⟩ ∧ (∀ W, Below w.heap.size w W → BAt W (some ⟨b, o + (buf ps es i).length, none⟩) (byt ps i)) ∧
    Calls Tryd.prog 8 #[.slice p N c, .int .i64 ((buf ps es i).length : Int), .int .i64 ((0 : Nat) : Int), .bool fin] w fun e w' => e = .returned (.tuple #[.slice (some ⟨b, o + (buf ps es i).length, none⟩) (byt ps i).length (c - (buf ps es i).length), .bool true, .int .i64 ((buf ps es (i + 1)).length : Int), .int .i64 ((0 : Nat) : Int)]) ∧ Below w.heap.size w w' := by
  obtain ⟨r, hr, hr0, hr1⟩ := buf_at ps es hi
  have hno := V.noend i hi
  have hbl := buf_len ps es i
  have hne : 0 < (byt es i).length := by rcases V.ends i hi with e | e | e <;> rw [e] <;> simp
  have hpos : (buf ps es i).length < N := by
    have h1 := congrArg List.length hr
    rw [List.length_drop, h.len] at h1
    simp only [List.length_append] at h1
    omega
  obtain ⟨b, o, rfl, hcell⟩ := h.ne hpos
  have hbat : BAt w (some ⟨b, o + (buf ps es i).length, none⟩) (byt ps i) := fun _ => ⟨b, _, rfl, fun j x hx => by
    have : ((buf ps es n).drop (buf ps es i).length)[j]? = some x := by
      rw [hr, List.getElem?_append_left (List.getElem?_eq_some_iff.1 hx).1]; exact hx
    rw [List.getElem?_drop] at this
    have := hcell _ _ this
    rwa [← Nat.add_assoc] at this⟩
  refine ⟨b, o, rfl, fun W hW => BAt.below hbat hW (rfl : 0 = 0), ?_⟩
  rcases V.ends i hi with e | e | e
  · have hk : FirstEnd ((buf ps es n).drop (buf ps es i).length) (byt ps i).length 10 := by
      rw [hr, e]
      exact ⟨noAny_app hno, app_at, by decide⟩
    have := zz_got1 h (sc := 0) fin hk (Nat.zero_le _) (.inl rfl)
    rwa [show (buf ps es i).length + ((byt ps i).length + 1) = (buf ps es (i + 1)).length by rw [hbl, e]; rfl] at this
  · have hk : FirstEnd ((buf ps es n).drop (buf ps es i).length) (byt ps i).length 13 := by
      rw [hr, e]
      exact ⟨noAny_app hno, app_at, by decide⟩
    have := zz_got2 h (sc := 0) fin hk (Nat.zero_le _) (by rw [hr, e]; exact app_at1)
    rwa [show (buf ps es i).length + ((byt ps i).length + 2) = (buf ps es (i + 1)).length by rw [hbl, e]; rfl] at this
  · have hk : FirstEnd ((buf ps es n).drop (buf ps es i).length) (byt ps i).length 13 := by
      rw [hr, e]
      exact ⟨noAny_app hno, app_at, by decide⟩
    have hx : (13 : UInt8) = 10 ∨ ((13 : UInt8) = 13 ∧ (byt ps i).length + 1 = N - (buf ps es i).length ∧ fin = true) ∨ ((13 : UInt8) = 13 ∧ ∃ y : UInt8, ((buf ps es n).drop (buf ps es i).length)[(byt ps i).length + 1]? = some y ∧ y ≠ 10) := by
      by_cases hl : i + 1 = n
      · refine .inr (.inl ⟨rfl, ?_, hfin hl e⟩)
        have h1 := congrArg List.length hr
        rw [hr0 hl, e, List.length_drop, h.len] at h1
        simp at h1
        omega
      · refine .inr (.inr ⟨rfl, ?_⟩)
        obtain ⟨r', rfl⟩ := hr1 (by omega)
        have hnx := V.next i (by omega) e
        have hno2 := V.noend (i + 1) (by omega)
        cases hp : byt ps (i + 1) with
        | nil => exact absurd hp hnx
        | cons y t =>
          refine ⟨y, by rw [hr, e, hp]; exact app_at1, fun hy => ?_⟩
          rw [hp] at hno2
          have := hno2 0 y (by simp) rfl
          rw [hy] at this
          revert this
          decide
    have := zz_got1 h (sc := 0) fin hk (Nat.zero_le _) hx
    rwa [show (buf ps es i).length + ((byt ps i).length + 1) = (buf ps es (i + 1)).length by rw [hbl, e]; rfl] at this

/-- The last line, ended by a lone CR, held back. -/
theorem zz_kept {w : World} {p : Option Addr} {N c n : Nat} {ps es : List ByteArray} (h : BufIn w p N c (buf ps es n)) (V : VIx ps es n) {i : Nat} (hi : i + 1 = n) (e : byt es i = [13]) :
    Calls Tryd.prog 8 #[.slice p N c, .int .i64 ((buf ps es i).length : Int), .int .i64 ((0 : Nat) : Int), .bool false] w fun e w' => e = .returned (.tuple #[.slice none 0 0, .bool false, .int .i64 ((buf ps es i).length : Int), .int .i64 ((byt ps i).length : Int)]) ∧ Below w.heap.size w w' := by
  obtain ⟨r, hr, hr0, _⟩ := buf_at ps es (show i < n by omega)
  have hno := V.noend i (by omega)
  have hk : FirstEnd ((buf ps es n).drop (buf ps es i).length) (byt ps i).length 13 := by
    rw [hr, e]
    exact ⟨noAny_app hno, app_at, by decide⟩
  refine zz_held h (sc := 0) hk (Nat.zero_le _) ?_
  have h1 := congrArg List.length hr
  rw [hr0 hi, e, List.length_drop, h.len] at h1
  simp at h1
  omega

/-- Nothing more. -/
theorem zz_done {w : World} {p : Option Addr} {N c n : Nat} {ps es : List ByteArray} (h : BufIn w p N c (buf ps es n)) (fin : Bool) :
    Calls Tryd.prog 8 #[.slice p N c, .int .i64 ((buf ps es n).length : Int), .int .i64 ((0 : Nat) : Int), .bool fin] w fun e w' => e = .returned (.tuple #[.slice none 0 0, .bool false, .int .i64 ((buf ps es n).length : Int), .int .i64 ((0 : Nat) : Int)]) ∧ Below w.heap.size w w' := by
  have := zz_none h (pos := (buf ps es n).length) (sc := 0) fin (by rw [h.len]; exact Nat.le_refl _) (Nat.zero_le _) (fun j x hj _ => by rw [h.len] at hj; omega)
  rwa [show N - (buf ps es n).length = 0 by rw [h.len]; omega] at this
end Go.Proofs.Qxb6002908aDoor
