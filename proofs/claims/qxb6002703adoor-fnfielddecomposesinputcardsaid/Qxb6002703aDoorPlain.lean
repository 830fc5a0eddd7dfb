/-
  The plain layer: fields and words of a list of bytes. No Go in this text.
-/
import Derived.Lib.IndexAny
import Derived.Lib.SlTrimSet
namespace Go.Proofs.Qxb6002703aDoor
open Go

def blk (b : UInt8) : Bool := [32, 9].contains b
theorem blk_iff (b : UInt8) : blk b = (decide ((b.toNat : Int) = 32) || decide ((b.toNat : Int) = 9)) := by
  unfold blk
  have h1 : (b == 32) = decide ((b.toNat : Int) = 32) := by
    rw [Bool.eq_iff_iff]; simp; constructor
    · intro h; rw [h]; rfl
    · intro h; exact UInt8.toNat_inj.1 (by simpa using (by omega : b.toNat = 32))
  have h2 : (b == 9) = decide ((b.toNat : Int) = 9) := by
    rw [Bool.eq_iff_iff]; simp; constructor
    · intro h; rw [h]; rfl
    · intro h; exact UInt8.toNat_inj.1 (by simpa using (by omega : b.toNat = 9))
  rw [← h1, ← h2]
  simp only [List.contains, List.elem]
  cases (b == 32) <;> cases (b == 9) <;> rfl

def fF (l : List UInt8) : List UInt8 := (Lib.trimLeftS l [32, 9]).takeWhile (fun b => !blk b)
def rF (l : List UInt8) : List UInt8 := (Lib.trimLeftS l [32, 9]).dropWhile (fun b => !blk b)

theorem trim_eq (l : List UInt8) : Lib.trimLeftS l [32, 9] = l.dropWhile blk := rfl

theorem idx_neg : ∀ t : List UInt8, Lib.indexAny t [32, 9] = -1 → t.takeWhile (fun b => !blk b) = t ∧ t.dropWhile (fun b => !blk b) = []
  | [], _ => ⟨rfl, rfl⟩
  | b :: l, h => by
    unfold Lib.indexAny at h
    have hc : [32, 9].contains b = blk b := rfl
    rw [hc] at h
    cases hb : blk b
    · rw [hb] at h
      simp only [Bool.false_eq_true, if_false] at h
      have hge := Lib.indexAny_ge [32, 9] l
      have h1 : Lib.indexAny l [32, 9] = -1 := by
        by_cases e : Lib.indexAny l [32, 9] = -1
        · exact e
        · rw [if_neg (by simpa using e)] at h; omega
      obtain ⟨i1, i2⟩ := idx_neg l h1
      simp [List.takeWhile, List.dropWhile, hb, i1, i2]
    · rw [hb] at h; simp at h

theorem idx_pos : ∀ t : List UInt8, 0 ≤ Lib.indexAny t [32, 9] → t.take (Lib.indexAny t [32, 9]).toNat = t.takeWhile (fun b => !blk b) ∧ t.drop (Lib.indexAny t [32, 9]).toNat = t.dropWhile (fun b => !blk b) ∧ (Lib.indexAny t [32, 9]).toNat ≤ t.length
  | [], h => by simp [Lib.indexAny] at h
  | b :: l, h => by
    have hc : [32, 9].contains b = blk b := rfl
    unfold Lib.indexAny at h ⊢
    rw [hc] at h ⊢
    cases hb : blk b
    · rw [hb] at h
      simp only [Bool.false_eq_true, if_false] at h ⊢
      have hge := Lib.indexAny_ge [32, 9] l
      have h1 : ¬ Lib.indexAny l [32, 9] = -1 := by
        intro e; rw [if_pos (by simpa using e)] at h; omega
      rw [if_neg (by simpa using h1)] at h ⊢
      obtain ⟨i1, i2, i3⟩ := idx_pos l (by omega)
      have e : (Lib.indexAny l [32, 9] + 1).toNat = (Lib.indexAny l [32, 9]).toNat + 1 := by omega
      rw [e]
      simp [List.takeWhile, List.dropWhile, hb, i1, i2]
      omega
    · simp [hb, List.takeWhile, List.dropWhile]

/-- The number of bytes that are no blank. -/
def nbl (l : List UInt8) : Nat := (l.filter (fun b => !blk b)).length
/-- The number of words; 'p': a word may begin here. -/
def wdl : Bool → List UInt8 → Nat
  | _, [] => 0
  | p, b :: l => (if !blk b && p then 1 else 0) + wdl (blk b) l
def prevB (l : List UInt8) : Nat → Bool
  | 0 => true
  | k + 1 => blk (l.getD k 0)

theorem nbl_le (l : List UInt8) : nbl l ≤ l.length := List.length_filter_le _ _
theorem wdl_le : ∀ (p : Bool) (l : List UInt8), wdl p l ≤ l.length
  | _, [] => Nat.le_refl _
  | p, b :: l => by
    have := wdl_le (blk b) l
    unfold wdl
    simp only [List.length_cons]
    split <;> omega

theorem drop_at {l : List UInt8} {k : Nat} {x : UInt8} (h : l[k]? = some x) : l.drop k = x :: l.drop (k + 1) := by
  have hk : k < l.length := (List.getElem?_eq_some_iff.1 h).1
  rw [List.drop_eq_getElem_cons hk]
  congr 1
  exact (List.getElem?_eq_some_iff.1 h).2

theorem prevB_succ {l : List UInt8} {k : Nat} {x : UInt8} (h : l[k]? = some x) : prevB l (k + 1) = blk x := by
  show blk (l.getD k 0) = blk x
  rw [List.getD_eq_getElem?_getD, h]; rfl

theorem nbl_step {l : List UInt8} {k : Nat} {x : UInt8} (h : l[k]? = some x) : nbl (l.drop k) = (if blk x then 0 else 1) + nbl (l.drop (k + 1)) := by
  rw [drop_at h]
  unfold nbl
  cases hb : blk x <;> simp [hb]
  omega
theorem wdl_step {l : List UInt8} {k : Nat} {x : UInt8} (h : l[k]? = some x) : wdl (prevB l k) (l.drop k) = (if blk x then 0 else if prevB l k then 1 else 0) + wdl (prevB l (k + 1)) (l.drop (k + 1)) := by
  rw [drop_at h, prevB_succ h, wdl]
  cases hb : blk x <;> cases hp : prevB l k <;> simp

/-! ### What a field takes away -/
theorem wdl_blanks : ∀ l : List UInt8, wdl true l = wdl true (l.dropWhile blk)
  | [] => rfl
  | b :: l => by
    cases hb : blk b
    · simp [List.dropWhile, hb]
    · simp only [List.dropWhile, hb]
      rw [wdl, hb, wdl_blanks l]; simp
theorem nbl_blanks : ∀ l : List UInt8, nbl l = nbl (l.dropWhile blk)
  | [] => rfl
  | b :: l => by
    have ih := nbl_blanks l
    unfold nbl at ih ⊢
    cases hb : blk b
    · simp [List.dropWhile, hb]
    · simp only [List.dropWhile, hb, List.filter_cons]; simpa using ih
theorem wdl_word : ∀ l : List UInt8, wdl false l = wdl true (l.dropWhile (fun b => !blk b))
  | [] => rfl
  | b :: l => by
    cases hb : blk b
    · simp only [List.dropWhile, hb, Bool.not_false]
      rw [wdl, hb, wdl_word l]; simp
    · simp [List.dropWhile, hb, wdl]
theorem nbl_word : ∀ l : List UInt8, nbl l = (l.takeWhile (fun b => !blk b)).length + nbl (l.dropWhile (fun b => !blk b))
  | [] => rfl
  | b :: l => by
    have ih := nbl_word l
    cases hb : blk b
    · unfold nbl at ih ⊢
      simp only [List.dropWhile, List.takeWhile, hb, List.filter_cons, Bool.not_false, if_true, List.length_cons]
      omega
    · simp [List.dropWhile, List.takeWhile, hb]

theorem trim_head (l : List UInt8) : l.dropWhile blk = [] ∨ ∃ x t, l.dropWhile blk = x :: t ∧ blk x = false := by
  induction l with
  | nil => exact .inl rfl
  | cons b l ih =>
    cases hb : blk b
    · exact .inr ⟨b, l, by simp [List.dropWhile, hb], hb⟩
    · simp only [List.dropWhile, hb]; exact ih

theorem tw_dw (p : UInt8 → Bool) (l : List UInt8) : (l.takeWhile p).length + (l.dropWhile p).length = l.length := by
  rw [← List.length_append, List.takeWhile_append_dropWhile]

theorem fr_len (l : List UInt8) : (fF l).length + (rF l).length ≤ l.length := by
  unfold fF rF
  rw [trim_eq, tw_dw]
  have := tw_dw blk l
  omega

theorem f_nil {l : List UInt8} (h : fF l = []) : rF l = [] ∧ wdl true l = 0 ∧ nbl l = 0 := by
  unfold fF at h; unfold rF
  rw [trim_eq] at h ⊢
  rw [wdl_blanks, nbl_blanks]
  rcases trim_head l with e | ⟨x, t, e, hx⟩
  · rw [e]; exact ⟨rfl, rfl, rfl⟩
  · rw [e] at h; simp [List.takeWhile, hx] at h

theorem f_some {l : List UInt8} (h : fF l ≠ []) : wdl true l = 1 + wdl true (rF l) ∧ nbl l = (fF l).length + nbl (rF l) ∧ (rF l).length < l.length := by
  have hl := fr_len l
  have hp : 0 < (fF l).length := List.length_pos_iff.2 h
  unfold fF at h; unfold rF fF
  rw [trim_eq] at h ⊢
  refine ⟨?_, ?_, by unfold rF at hl; rw [trim_eq] at hl; omega⟩
  · rw [wdl_blanks]
    rcases trim_head l with e | ⟨x, t, e, hx⟩
    · rw [e] at h; exact absurd rfl h
    · rw [e, wdl, hx, wdl_word]
      simp [List.dropWhile, hx]
  · rw [nbl_blanks, nbl_word]

end Go.Proofs.Qxb6002703aDoor
