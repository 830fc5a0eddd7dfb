/-
  The walks that both laws share.
-/
import Derived.Test.Qxb6002703aDoorRune
import Derived.Test.Qxb6002703aDoorPlain
import Derived.Lib.Builder
namespace Go.Proofs.Qxb6002703aDoor
open Go.RowKit Go.Shelf Go.Lib

theorem ret_bool {a b : Bool} (h : b = a) : Ending.returned (.bool a) = .returned (.bool b) := by rw [h]
theorem blk_u8 (x : UInt8) : ((x.toNat : Int) == 32 || (x.toNat : Int) == 9) = blk x := by
  rw [blk_iff]
  congr 1

set_option maxHeartbeats 400000 in
theorem isBlank_any (x : UInt8) (w : World) :
    Calls Tryd.prog 11 #[.int .u8 (x.toNat : Int)] w fun e w' => e = .returned (.bool (blk x)) ∧ w' = w := by
  rw [← blk_u8]
  cases h : ((x.toNat : Int) == 32)
  all_goals
    go_enter Tryd.func11, Tryd.ntmps11
    go_wp2
    go_ret
    exact ⟨by simp, rfl⟩

set_option maxHeartbeats 400000 in
theorem field_any (s : ByteArray) (w : World) (hs : s.size < 4294967281) :
    Calls Tryd.prog 15 #[.string s] w fun e w' => e = .returned (.tuple #[.string ⟨(fF s.data.toList).toArray⟩, .string ⟨(rF s.data.toList).toArray⟩]) ∧ Below w.heap.size w w' := by
  have hT := trimLeft_any s w
  have hlen : (Lib.trimLeftS s.data.toList [32, 9]).length ≤ s.size := by
    rw [trim_eq, Lib.size_eq]
    have := tw_dw blk s.data.toList
    omega
  have hsz := Lib.size_mk (Lib.trimLeftS s.data.toList [32, 9])
  have HI : Hid (∀ W, Calls Tryd.prog 17 #[.string ⟨(Lib.trimLeftS s.data.toList [32, 9]).toArray⟩, .string ⟨#[32, 9]⟩] W fun e w' => e = .returned (.int .i64 (Lib.indexAny (Lib.trimLeftS s.data.toList [32, 9]) [32, 9])) ∧ Below W.heap.size W w') :=
    fun W => indexAny_any ⟨(Lib.trimLeftS s.data.toList [32, 9]).toArray⟩ W (by omega)
  have HN : Hid (Lib.indexAny (Lib.trimLeftS s.data.toList [32, 9]) [32, 9] = -1 → fF s.data.toList = Lib.trimLeftS s.data.toList [32, 9] ∧ rF s.data.toList = []) := fun h => idx_neg _ h
  have HP : Hid (0 ≤ Lib.indexAny (Lib.trimLeftS s.data.toList [32, 9]) [32, 9] → (Lib.trimLeftS s.data.toList [32, 9]).take (Lib.indexAny (Lib.trimLeftS s.data.toList [32, 9]) [32, 9]).toNat = fF s.data.toList ∧ (Lib.trimLeftS s.data.toList [32, 9]).drop (Lib.indexAny (Lib.trimLeftS s.data.toList [32, 9]) [32, 9]).toNat = rF s.data.toList ∧ (Lib.indexAny (Lib.trimLeftS s.data.toList [32, 9]) [32, 9]).toNat ≤ (Lib.trimLeftS s.data.toList [32, 9]).length) := fun h => idx_pos _ h
  have hge := Lib.indexAny_ge [32, 9] (Lib.trimLeftS s.data.toList [32, 9])
  generalize Lib.indexAny (Lib.trimLeftS s.data.toList [32, 9]) [32, 9] = i at *
  generalize Lib.trimLeftS s.data.toList [32, 9] = t at *
  generalize fF s.data.toList = f at *
  generalize rF s.data.toList = r at *
  by_cases h0 : 0 ≤ i
  · obtain ⟨e1, e2, e3⟩ := HP.out h0
    have x1 : (⟨t.toArray⟩ : ByteArray).extract 0 i.toNat = ⟨f.toArray⟩ := by rw [Lib.extract_mk, List.drop_zero, Nat.sub_zero, e1]
    have x2 : (⟨t.toArray⟩ : ByteArray).extract i.toNat t.length = ⟨r.toArray⟩ := by rw [Lib.extract_mk, List.take_of_length_le (by simp), e2]
    have hi : i ≤ (t.length : Int) := by omega
    clear e1 e2 e3 HN HP
    go_enter Tryd.func15, Tryd.ntmps15
    go_wp2_with fail
    refine hT.mono ?_
    rintro e w1 ⟨rfl, hB1⟩
    go_wp2_with fail
    refine (HI.out _).mono ?_
    rintro e w2 ⟨rfl, hB2⟩
    go_wp2_with fail
    go_quiet (fail)
    go_wp2
    go_ret2
    exact ⟨rfl, below_drewN (hB1.trans (hB2.mono hB1.size)) _⟩
  · obtain ⟨e1, e2⟩ := HN.out (by omega)
    subst e1 e2
    clear HP HN
    go_enter Tryd.func15, Tryd.ntmps15
    go_wp2_with fail
    refine hT.mono ?_
    rintro e w1 ⟨rfl, hB1⟩
    go_wp2_with fail
    refine (HI.out _).mono ?_
    rintro e w2 ⟨rfl, hB2⟩
    go_wp2
    go_ret2
    exact ⟨rfl, hB1.trans (hB2.mono hB1.size)⟩

set_option maxHeartbeats 400000 in
theorem zzfield_any (s : ByteArray) (w : World) (hs : s.size < 4294967281) :
    Calls Tryd.prog 8 #[.string s] w fun e w' => e = .returned (.tuple #[.string ⟨(fF s.data.toList).toArray⟩, .string ⟨(rF s.data.toList).toArray⟩]) ∧ Below w.heap.size w w' := by
  have hF := field_any s w hs
  generalize fF s.data.toList = f at *
  generalize rF s.data.toList = r at *
  go_enter Tryd.func8, Tryd.ntmps8
  go_wp2_with fail
  refine hF.mono ?_
  rintro e w1 ⟨rfl, hB1⟩
  go_wp2
  go_ret2
  exact ⟨rfl, hB1⟩

def allB (l : List UInt8) : Bool := l.all blk
def anyB (l : List UInt8) : Bool := l.any blk

set_option maxHeartbeats 400000 in
theorem allBlank_any (s : ByteArray) (w : World) (hs : s.size < 4294967281) :
    Calls Tryd.prog 9 #[.string s] w fun e w' => e = .returned (.bool (allB s.data.toList)) ∧ w' = w := by
  go_enter Tryd.func9, Tryd.ntmps9
  go_wp2
  go_loop [3] (fun i => ∃ k : Nat, k ≤ s.size ∧ i = .int .i64 k ∧ Hid (allB s.data.toList = allB (s.data.toList.drop k))) (fun i => s.size - (RowKit.intOf i).toNat)
  case atStart => exact ⟨0, Nat.zero_le _, rfl, rfl⟩
  case round =>
    obtain ⟨k, hk, rfl, HK⟩ := hrel
    by_cases hlt : k < s.size
    · obtain ⟨x, hx⟩ : ∃ x : UInt8, s[k]'hlt = x := ⟨_, rfl⟩
      have hxl : s.data.toList[k]? = some x := by rw [← hx]; exact Lib.data_getElem? s k hlt
      have HS : Hid (allB (s.data.toList.drop k) = (blk x && allB (s.data.toList.drop (k + 1)))) := by rw [drop_at hxl]; exact List.all_cons
      clear hxl
      cases hb : blk x
      · have HB : Hid (blk x = false) := hb
        go_wp2_with (go_at_call 11; refine (isBlank_any _ _).mono ?_; rintro e w' ⟨rfl, rfl⟩)
        go_ret
        exact ⟨ret_bool (by rw [HK.out, HS.out, HB.out]; rfl), rfl⟩
      · have HB : Hid (blk x = true) := hb
        go_wp2_with (go_at_call 11; refine (isBlank_any _ _).mono ?_; rintro e w' ⟨rfl, rfl⟩)
        go_round
        case rel => exact ⟨k + 1, by omega, by go_num, show _ = _ by rw [HK.out, HS.out, HB.out, Bool.true_and]⟩
        case measure => simp [RowKit.intOf]; omega
    · go_wp2
      go_ret
      exact ⟨ret_bool (by rw [HK.out, List.drop_of_length_le (by rw [← Lib.size_eq]; omega)]; rfl), rfl⟩

set_option maxHeartbeats 400000 in
theorem hasBlank_any (s : ByteArray) (w : World) (hs : s.size < 4294967281) :
    Calls Tryd.prog 10 #[.string s] w fun e w' => e = .returned (.bool (anyB s.data.toList)) ∧ w' = w := by
  go_enter Tryd.func10, Tryd.ntmps10
  go_wp2
  go_loop [3] (fun i => ∃ k : Nat, k ≤ s.size ∧ i = .int .i64 k ∧ Hid (anyB s.data.toList = anyB (s.data.toList.drop k))) (fun i => s.size - (RowKit.intOf i).toNat)
  case atStart => exact ⟨0, Nat.zero_le _, rfl, rfl⟩
  case round =>
    obtain ⟨k, hk, rfl, HK⟩ := hrel
    by_cases hlt : k < s.size
    · obtain ⟨x, hx⟩ : ∃ x : UInt8, s[k]'hlt = x := ⟨_, rfl⟩
      have hxl : s.data.toList[k]? = some x := by rw [← hx]; exact Lib.data_getElem? s k hlt
      have HS : Hid (anyB (s.data.toList.drop k) = (blk x || anyB (s.data.toList.drop (k + 1)))) := by rw [drop_at hxl]; exact List.any_cons
      clear hxl
      cases hb : blk x
      · have HB : Hid (blk x = false) := hb
        go_wp2_with (go_at_call 11; refine (isBlank_any _ _).mono ?_; rintro e w' ⟨rfl, rfl⟩)
        go_round
        case rel => exact ⟨k + 1, by omega, by go_num, show _ = _ by rw [HK.out, HS.out, HB.out, Bool.false_or]⟩
        case measure => simp [RowKit.intOf]; omega
      · have HB : Hid (blk x = true) := hb
        go_wp2_with (go_at_call 11; refine (isBlank_any _ _).mono ?_; rintro e w' ⟨rfl, rfl⟩)
        go_ret
        exact ⟨ret_bool (by rw [HK.out, HS.out, HB.out]; rfl), rfl⟩
    · go_wp2
      go_ret
      exact ⟨ret_bool (by rw [HK.out, List.drop_of_length_le (by rw [← Lib.size_eq]; omega)]; rfl), rfl⟩

set_option maxHeartbeats 400000 in
theorem bytes7 (s : ByteArray) (w : World) (hs : s.size ≤ maxLen) :
    Calls Tryd.prog 7 #[.string s] w fun e w' => e = .returned (.bool (decide (s.size ≤ 1048576))) ∧ w' = w := by
  unfold maxLen at hs
  by_cases h : s.size ≤ 1048576
  all_goals
    go_enter Tryd.func7, Tryd.ntmps7
    go_wp2
    go_ret
    exact ⟨by simp [h], rfl⟩
set_option maxHeartbeats 400000 in
theorem bytes14 (s : ByteArray) (w : World) (hs : s.size ≤ maxLen) :
    Calls Tryd.prog 14 #[.string s] w fun e w' => e = .returned (.bool (decide (s.size ≤ 1048576))) ∧ w' = w := by
  unfold maxLen at hs
  by_cases h : s.size ≤ 1048576
  all_goals
    go_enter Tryd.func14, Tryd.ntmps14
    go_wp2
    go_ret
    exact ⟨by simp [h], rfl⟩
end Go.Proofs.Qxb6002703aDoor
