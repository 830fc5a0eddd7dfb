/-
  The walk of FnFieldDecomposesInput.
-/
import Derived.Test.Qxb6002703aDoorTok
namespace Go.Proofs.Qxb6002703aDoor
open Go.RowKit Go.Shelf Go.Lib

theorem tw_all (p : UInt8 → Bool) : ∀ l : List UInt8, (l.takeWhile p).all p = true
  | [] => rfl
  | b :: l => by
    cases hb : p b
    · simp [List.takeWhile, hb]
    · simp [List.takeWhile, hb, tw_all p l]
theorem tw_none : ∀ l : List UInt8, (l.takeWhile (fun b => !blk b)).any blk = false
  | [] => rfl
  | b :: l => by
    cases hb : blk b
    · simp only [List.takeWhile, hb, Bool.not_false, List.any_cons, Bool.false_or]; exact tw_none l
    · simp [List.takeWhile, hb]
theorem dw_head : ∀ l : List UInt8, ∀ x, (l.dropWhile (fun b => !blk b))[0]? = some x → blk x = true
  | [], x, h => by simp at h
  | b :: l, x, h => by
    cases hb : blk b
    · simp only [List.dropWhile, hb, Bool.not_false] at h; exact dw_head l x h
    · simp only [List.dropWhile, hb, Bool.not_true, List.getElem?_cons_zero, Option.some.injEq] at h
      rw [← h]; exact hb

def pF (l : List UInt8) : List UInt8 := l.takeWhile blk
theorem split_eq (l : List UInt8) : pF l ++ (fF l ++ rF l) = l := by
  unfold pF fF rF
  rw [List.takeWhile_append_dropWhile, trim_eq, List.takeWhile_append_dropWhile]
theorem pF_all (l : List UInt8) : allB (pF l) = true := tw_all blk l
theorem fF_none (l : List UInt8) : anyB (fF l) = false := tw_none _
theorem rF_head (l : List UInt8) : ∀ x, (rF l)[0]? = some x → blk x = true := dw_head _

theorem dec_big (s : ByteArray) (w : World) (hs : s.size ≤ maxLen) (hbig : 65536 < s.size) :
    Calls Tryd.prog 3 #[.string s] w fun e w' => e = .returned (.bool true) ∧ Below w.heap.size w w' := by
  have h7 := bytes7 s w hs
  unfold maxLen at hs
  go_enter Tryd.func3, Tryd.ntmps3
  go_wp2_with fail
  refine h7.mono ?_
  rintro e w1 ⟨rfl, rfl⟩
  by_cases h : s.size ≤ 1048576
  · have hd : decide (s.size ≤ 1048576) = true := decide_eq_true h
    rw [hd]
    go_wp2
    go_ret
    exact ⟨rfl, Below.refl _ _⟩
  · have hd : decide (s.size ≤ 1048576) = false := decide_eq_false h
    rw [hd]
    go_wp2
    go_ret
    exact ⟨rfl, Below.refl _ _⟩

set_option maxHeartbeats 1000000 in
theorem dec_core (s F R Q : ByteArray) (w : World) (hsm : s.size ≤ 65536)
    (h7 : Calls Tryd.prog 7 #[.string s] w fun e w' => e = .returned (.bool true) ∧ w' = w)
    (hz : Hid (∀ w, Calls Tryd.prog 8 #[.string s] w fun e w' => e = .returned (.tuple #[.string F, .string R]) ∧ Below w.heap.size w w'))
    (hle : F.size + R.size ≤ s.size)
    (x1 : s.extract (s.size - R.size) s.size = R)
    (x2 : s.extract (s.size - R.size - F.size) (s.size - R.size) = F)
    (x3 : s.extract 0 (s.size - R.size - F.size) = Q)
    (hQ : Hid (∀ w, Calls Tryd.prog 9 #[.string Q] w fun e w' => e = .returned (.bool true) ∧ w' = w))
    (hF : Hid (∀ w, Calls Tryd.prog 10 #[.string F] w fun e w' => e = .returned (.bool false) ∧ w' = w))
    (hR : ∀ h : 0 < R.size, blk (R[0]'h) = true)
    (hE : F.toList.isEmpty = true → R.toList.isEmpty = true ∧ R.size < 1 ∧ Hid (∀ w, Calls Tryd.prog 9 #[.string s] w fun e w' => e = .returned (.bool true) ∧ w' = w)) :
    Calls Tryd.prog 3 #[.string s] w fun e w' => e = .returned (.bool true) ∧ Below w.heap.size w w' := by
  cases hfe : F.toList.isEmpty
  · clear hE
    by_cases h0 : 0 < R.size
    · have hR0 := hR h0
      clear hR
      go_enter Tryd.func3, Tryd.ntmps3
      go_wp2_with fail
      refine h7.mono ?_
      rintro e w1 ⟨rfl, rfl⟩
      go_wp2_with fail
      refine (hz.out _).mono ?_
      rintro e w2 ⟨rfl, hB⟩
      go_wp2_with fail
      refine (hQ.out _).mono ?_
      rintro e w3 ⟨rfl, rfl⟩
      go_wp2_with fail
      refine (hF.out _).mono ?_
      rintro e w4 ⟨rfl, rfl⟩
      go_wp2_with (go_at_call 11; refine (isBlank_any _ _).mono ?_; rintro e w' ⟨rfl, rfl⟩)
      go_ret
      exact ⟨rfl, hB⟩
    · clear hR
      go_enter Tryd.func3, Tryd.ntmps3
      go_wp2_with fail
      refine h7.mono ?_
      rintro e w1 ⟨rfl, rfl⟩
      go_wp2_with fail
      refine (hz.out _).mono ?_
      rintro e w2 ⟨rfl, hB⟩
      go_wp2_with fail
      refine (hQ.out _).mono ?_
      rintro e w3 ⟨rfl, rfl⟩
      go_wp2_with fail
      refine (hF.out _).mono ?_
      rintro e w4 ⟨rfl, rfl⟩
      go_wp2
      go_ret
      exact ⟨rfl, hB⟩
  · obtain ⟨hre, hr0, hA⟩ := hE hfe
    clear hE hR
    go_enter Tryd.func3, Tryd.ntmps3
    go_wp2_with fail
    refine h7.mono ?_
    rintro e w1 ⟨rfl, rfl⟩
    go_wp2_with fail
    refine (hz.out _).mono ?_
    rintro e w2 ⟨rfl, hB⟩
    go_wp2_with fail
    refine (hQ.out _).mono ?_
    rintro e w3 ⟨rfl, rfl⟩
    go_wp2_with fail
    refine (hF.out _).mono ?_
    rintro e w4 ⟨rfl, rfl⟩
    go_wp2_with fail
    refine (hA.out _).mono ?_
    rintro e w5 ⟨rfl, rfl⟩
    go_wp2
    go_ret
    exact ⟨rfl, hB⟩

theorem allB_append (a b : List UInt8) : allB (a ++ b) = (allB a && allB b) := by unfold allB; exact List.all_append

theorem dec_any (s : ByteArray) (w : World) (hs : s.size ≤ maxLen) :
    Calls Tryd.prog 3 #[.string s] w fun e w' => e = .returned (.bool true) ∧ Below w.heap.size w w' := by
  by_cases hsm : s.size ≤ 65536
  · have hsp := split_eq s.data.toList
    have hss := Lib.size_eq s
    have hp := pF_all s.data.toList
    have hf := fF_none s.data.toList
    have hr := rF_head s.data.toList
    have hn : fF s.data.toList = [] → rF s.data.toList = [] := fun h => (f_nil h).1
    have h7 := bytes7 s w hs
    rw [decide_eq_true (show s.size ≤ 1048576 by omega)] at h7
    have hz : ∀ w, Calls Tryd.prog 8 #[.string s] w fun e w' => e = .returned (.tuple #[.string ⟨(fF s.data.toList).toArray⟩, .string ⟨(rF s.data.toList).toArray⟩]) ∧ Below w.heap.size w w' := fun w => zzfield_any s w (by omega)
    have hA := fun w => allBlank_any s w (by omega)
    generalize fF s.data.toList = f at *
    generalize rF s.data.toList = r at *
    generalize pF s.data.toList = p at *
    have sf := Lib.size_mk f
    have sr := Lib.size_mk r
    have hlen : s.size = p.length + (f.length + r.length) := by rw [hss, ← hsp, List.length_append, List.length_append]
    have hex : ∀ i j, s.extract i j = ⟨((s.data.toList.drop i).take (j - i)).toArray⟩ := fun i j => by
      have := Lib.extract_mk s.data.toList i j
      rwa [Lib.mk_data] at this
    refine dec_core s ⟨f.toArray⟩ ⟨r.toArray⟩ ⟨p.toArray⟩ w hsm h7 hz (by omega) ?_ ?_ ?_ ?_ ?_ ?_ ?_
    · rw [hex, sr, ← hsp]
      congr 2
      rw [← List.append_assoc, List.drop_append_of_le_length (by simp; omega), List.drop_of_length_le (by simp; omega), List.nil_append, List.take_of_length_le (by omega)]
    · rw [hex, sr, sf, ← hsp]
      congr 2
      rw [List.drop_append_of_le_length (by omega), List.drop_of_length_le (by omega), List.nil_append, List.take_append_of_le_length (by omega), List.take_of_length_le (by omega)]
    · rw [hex, sr, sf, ← hsp]
      congr 2
      rw [List.drop_zero, List.take_append_of_le_length (by omega), List.take_of_length_le (by omega)]
    · intro w
      have := allBlank_any ⟨p.toArray⟩ w (by rw [Lib.size_mk]; omega)
      rw [show allB (⟨p.toArray⟩ : ByteArray).data.toList = true from hp] at this
      exact this
    · intro w
      have := hasBlank_any ⟨f.toArray⟩ w (by omega)
      rw [show anyB (⟨f.toArray⟩ : ByteArray).data.toList = false from hf] at this
      exact this
    · intro h
      exact hr _ (by rw [← Lib.getElem_mk r 0 h])
    · intro he
      have hf0 : f = [] := by
        cases f with
        | nil => rfl
        | cons x t => rw [empty_of_ne (by simp)] at he; cases he
      have hr0 := hn hf0
      subst hf0 hr0
      refine ⟨by rw [Lib.toList_data]; rfl, by decide, fun w => ?_⟩
      have := hA w
      rw [← hsp, List.append_nil, List.append_nil, hp] at this
      exact this
  · exact dec_big s w hs (by omega)
end Go.Proofs.Qxb6002703aDoor
