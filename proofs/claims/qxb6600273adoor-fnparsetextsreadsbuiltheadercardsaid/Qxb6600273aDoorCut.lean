/-
  strings.Cut at a blank; strings.HasPrefix at a quotation mark; isWarnCode.
-/
import Derived.Test.Qxb6600273aDoorBuild
import Derived.Lib.Bytealg
import Derived.Lib.IndexBytes
import Derived.Lib.TrimByte
import Derived.BigQuiet
import Derived.Deep.QuietTactic
namespace Go.Proofs.Qxb6600273aDoor
open Go.Shelf Go.RowKit

theorem idx_at (pre r : List UInt8) (h : ∀ b ∈ pre, b ≠ 32) : Lib.indexByte (pre ++ 32 :: r) 32 = (pre.length : Int) := by
  induction pre with
  | nil => simp [Lib.indexByte]
  | cons b l ih =>
    have hb : (b == 32) = false := by simpa using h b (by simp)
    have := ih (fun c hc => h c (by simp [hc]))
    simp only [List.cons_append, Lib.indexByte, hb, this]
    have h1 : (((l.length : Nat) : Int) == -1) = false := by
      rw [beq_eq_false_iff_ne]; omega
    simp [h1]

set_option maxHeartbeats 1000000 in
set_option maxRecDepth 100000 in
theorem indexByte_any (s : ByteArray) (c : Int) (w : World) :
    Calls Tryd.prog 31 #[.string s, .int .u8 c] w fun e w' => e = .returned (.int .i64 (Lib.indexByte s.data.toList c.toNat.toUInt8)) ∧ w' = w := by
  go_enter Tryd.func31, Tryd.ntmps31
  go_wp2
  rw [run_callFunc_extern Tryd.func38 (by kernel_rfl) (by kernel_rfl) (by kernel_rfl) (e := Extern.BytealgIndexByte.indexByte) (by kernel_rfl), Lib.run_indexByteString]
  simp only [Result.andThen]
  rw [Oper.upon_value]
  go_wp2
  go_ret
  exact ⟨rfl, rfl⟩

/-- A string that is cut at its first blank. -/
structure Cuts (s : ByteArray) (pre r : ByteArray) : Prop where
  eq : s.data.toList = pre.data.toList ++ 32 :: r.data.toList
  ne : pre.size ≠ 0
  no : ∀ b ∈ pre.data.toList, b ≠ 32

theorem Cuts.size {s pre r : ByteArray} (h : Cuts s pre r) : s.size = pre.size + 1 + r.size := by
  have := congrArg List.length h.eq
  simp at this
  omega

set_option maxHeartbeats 1000000 in
set_option maxRecDepth 100000 in
theorem index_cuts (s pre r : ByteArray) (w : World) (h : Cuts s pre r) :
    Calls Tryd.prog 27 #[.string s, .string ⟨#[32]⟩] w fun e w' => e = .returned (.int .i64 (pre.size : Int)) ∧ w' = w := by
  have hi := fun w' => indexByte_any s 32 w'
  have h32 : ((32 : Int).toNat.toUInt8) = 32 := by decide
  have hp : pre.data.toList.length = pre.size := by simp
  rw [h.eq, h32, idx_at _ _ h.no, hp] at hi
  have hne : ([32] == s.toList) = false := by
    rw [ByteArray.toList_eq, h.eq]
    cases hl : pre.data.toList with
    | nil => exact absurd (by rw [← hp, hl]; rfl) h.ne
    | cons a l => simp
  have hne2 : (s.toList == [32]) = false := by
    rw [← hne]; exact Bool.beq_comm
  clear h
  go_enter Tryd.func27, Tryd.ntmps27
  go_wp2_with fail
  refine (hi _).mono ?_
  rintro e w1 ⟨rfl, rfl⟩
  clear hi
  go_wp2
  go_ret
  exact ⟨rfl, rfl⟩

theorem cuts_fst {s pre r : ByteArray} (h : Cuts s pre r) : s.extract 0 pre.size = pre := by
  apply ByteArray.ext
  apply Array.toList_inj.1
  rw [Lib.extract_data, h.eq]
  have hp : pre.data.toList.length = pre.size := by simp
  simp only [List.drop_zero, Nat.sub_zero]
  rw [List.take_append_of_le_length (by omega), List.take_of_length_le (by omega)]
theorem cuts_snd {s pre r : ByteArray} (h : Cuts s pre r) : s.extract (pre.size + 1) s.size = r := by
  apply ByteArray.ext
  apply Array.toList_inj.1
  have hs := h.size
  rw [Lib.extract_data, h.eq]
  have hp : pre.data.toList.length = pre.size := by simp
  have hr : r.data.toList.length = r.size := by simp
  rw [← hp, ← List.drop_drop, List.drop_append_of_le_length (Nat.le_refl _), List.drop_length, List.nil_append]
  simp only [List.drop_succ_cons, List.drop_zero]
  exact List.take_of_length_le (by omega)

set_option maxHeartbeats 1000000 in
set_option maxRecDepth 100000 in
theorem cut_lite (s pre r : ByteArray) (w : World) (h : Cuts s pre r) (hs : s.size ≤ 9223372036854775807) :
    Calls Tryd.prog 20 #[.string s, .string ⟨#[32]⟩] w fun e w' => e = .returned (.tuple #[.string pre, .string r, .bool true]) ∧ Below w.heap.size w w' := by
  have hi := fun w' => index_cuts s pre r w' h
  have h1 := h.size
  have HSz : Hid (s.size = pre.size + 1 + r.size) := h1
  have H1 : Hid (s.extract 0 pre.size = pre) := cuts_fst h
  have H2 : Hid (s.extract (pre.size + 1) s.size = r) := cuts_snd h
  clear h
  have hw1 : IntKind.i64.wrap ((pre.size : Int) + 1) = (pre.size : Int) + 1 := by rw [IntKind.wrap_i64]; omega
  have ha1 : (pre.size : Int) ≤ (s.size : Int) := by omega
  have ha2 : (pre.size : Int) + 1 ≤ (s.size : Int) := by omega
  have ha3 : (0 : Int) ≤ (pre.size : Int) + 1 := by omega
  have ha4 : ((pre.size : Int) + 1).toNat = pre.size + 1 := by omega
  clear h1
  go_enter Tryd.func20, Tryd.ntmps20
  go_wp2_with fail
  refine (hi _).mono ?_
  rintro e w1 ⟨rfl, rfl⟩
  clear hi
  go_wp2_with fail
  go_quiet (fail)
  go_wp2
  rw [H1.out, H2.out]
  exact bodyPost_ret (v := .tuple #[.string pre, .string r, .bool true]) (by simp [results, Tryd.results20, go_sem]) rfl ⟨rfl, ⟨rfl, rfl, rfl, Nat.le_refl _, fun _ _ => rfl⟩⟩

set_option maxHeartbeats 1000000 in
set_option maxRecDepth 100000 in
theorem cut_any (s pre r : ByteArray) (w : World) (h : Cuts s pre r) (hs : s.size ≤ 9223372036854775807) :
    Calls Tryd.prog 12 #[.string s, .string ⟨#[32]⟩] w fun e w' => e = .returned (.tuple #[.string pre, .string r, .bool true]) ∧ Below w.heap.size w w' := by
  have hi := fun w' => cut_lite s pre r w' h hs
  clear h
  go_enter Tryd.func12, Tryd.ntmps12
  go_wp2_with fail
  refine (hi _).mono ?_
  rintro e w1 ⟨rfl, hb⟩
  clear hi
  go_wp2
  exact bodyPost_ret (v := .tuple #[.string pre, .string r, .bool true]) (by simp [results, Tryd.results12, go_sem]) rfl ⟨rfl, hb⟩

theorem head_quote (s : ByteArray) (h : 1 ≤ s.size) : ((s.extract 0 1).toList == [34]) = (s.data.toList.head? == some 34) := by
  have e : (s.extract 0 1).toList = s.data.toList.take 1 := by
    rw [ByteArray.toList_eq, Lib.extract_data]; simp
  rw [e]
  cases hl : s.data.toList with
  | nil => have : s.data.toList.length = s.size := by simp
           rw [hl] at this; simp at this; omega
  | cons a l => simp

set_option maxHeartbeats 1000000 in
set_option maxRecDepth 100000 in
theorem prefix_lite (s : ByteArray) (w : World) (hs : s.size ≤ 9223372036854775807) :
    Calls Tryd.prog 23 #[.string s, .string ⟨#[34]⟩] w fun e w' => e = .returned (.bool (s.data.toList.head? == some 34)) ∧ w' = w := by
  by_cases h : 1 ≤ s.size
  · have hq := head_quote s h
    generalize hv : (s.data.toList.head? == some (34 : UInt8)) = v at hq ⊢
    clear hv
    have h1 : (1 : Int) ≤ (s.size : Int) := by omega
    cases v
    all_goals
      go_enter Tryd.func23, Tryd.ntmps23
      go_wp2
      go_ret
      exact ⟨by simp, rfl⟩
  · have h0 : s.data.toList = [] := List.eq_nil_of_length_eq_zero (by have : s.data.toList.length = s.size := by simp
                                                                      omega)
    rw [h0]
    clear h0
    go_enter Tryd.func23, Tryd.ntmps23
    go_wp2
    go_ret
    exact ⟨rfl, rfl⟩

set_option maxHeartbeats 1000000 in
set_option maxRecDepth 100000 in
theorem prefix_any (s : ByteArray) (w : World) (hs : s.size ≤ 9223372036854775807) :
    Calls Tryd.prog 15 #[.string s, .string ⟨#[34]⟩] w fun e w' => e = .returned (.bool (s.data.toList.head? == some 34)) ∧ w' = w := by
  have hi := fun w' => prefix_lite s w' hs
  generalize hv : (s.data.toList.head? == some (34 : UInt8)) = v at hi ⊢
  clear hv
  go_enter Tryd.func15, Tryd.ntmps15
  go_wp2_with fail
  refine (hi _).mono ?_
  rintro e w1 ⟨rfl, rfl⟩
  clear hi
  go_wp2
  go_ret
  exact ⟨rfl, rfl⟩

set_option maxHeartbeats 1000000 in
set_option maxRecDepth 100000 in
theorem warn_ok (s : ByteArray) (w : World) (hs : s.size = 3) (h : ∀ (i : Nat) (hi : i < s.size), 48 ≤ (s[i]).toNat ∧ (s[i]).toNat ≤ 57) :
    Calls Tryd.prog 14 #[.string s] w fun e w' => e = .returned (.bool true) ∧ w' = w := by
  have a0 := h 0 (by omega)
  have a1 := h 1 (by omega)
  have a2 := h 2 (by omega)
  have b0 : (48 : Int) ≤ ((s[0]'(by omega)).toNat : Int) := by omega
  have b1 : ((s[0]'(by omega)).toNat : Int) ≤ 57 := by omega
  have b2 : (48 : Int) ≤ ((s[1]'(by omega)).toNat : Int) := by omega
  have b3 : ((s[1]'(by omega)).toNat : Int) ≤ 57 := by omega
  have b4 : (48 : Int) ≤ ((s[2]'(by omega)).toNat : Int) := by omega
  have b5 : ((s[2]'(by omega)).toNat : Int) ≤ 57 := by omega
  clear h a0 a1 a2
  go_enter Tryd.func14, Tryd.ntmps14
  go_wp2
  go_ret
  exact ⟨rfl, rfl⟩

set_option maxHeartbeats 1000000 in
set_option maxRecDepth 100000 in
theorem warn_len (s : ByteArray) (w : World) (hs : s.size ≠ 3) :
    Calls Tryd.prog 14 #[.string s] w fun e w' => e = .returned (.bool false) ∧ w' = w := by
  have hs' : ((s.size : Int) == 3) = false := by rw [beq_eq_false_iff_ne]; omega
  go_enter Tryd.func14, Tryd.ntmps14
  go_wp2
  go_ret
  exact ⟨rfl, rfl⟩

set_option maxHeartbeats 1000000 in
set_option maxRecDepth 100000 in
theorem warn_minus (s : ByteArray) (w : World) (hs : s.size = 3) (h : (s[0]'(by omega)).toNat < 48) :
    Calls Tryd.prog 14 #[.string s] w fun e w' => e = .returned (.bool false) ∧ w' = w := by
  have b0 : ¬ (48 : Int) ≤ ((s[0]'(by omega)).toNat : Int) := by omega
  go_enter Tryd.func14, Tryd.ntmps14
  go_wp2
  go_ret
  exact ⟨rfl, rfl⟩
end Go.Proofs.Qxb6600273aDoor
