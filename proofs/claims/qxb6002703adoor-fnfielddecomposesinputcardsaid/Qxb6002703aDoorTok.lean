/-
  The walk of FnFieldTokensCountWords.
-/
import Derived.Test.Qxb6002703aDoorWalks
namespace Go.Proofs.Qxb6002703aDoor
open Go.RowKit Go.Shelf Go.Lib

theorem zzfield_nil (L : ByteArray) (w : World) (hs : L.size < 4294967281) (h : fF L.data.toList = []) :
    Calls Tryd.prog 8 #[.string L] w fun e w' => e = .returned (.tuple #[.string ⟨#[]⟩, .string ⟨#[]⟩]) ∧ Below w.heap.size w w' := by
  have c := zzfield_any L w hs
  rw [h, (f_nil h).1] at c
  exact c

theorem empty_of_ne {f : List UInt8} (h : f ≠ []) : (⟨f.toArray⟩ : ByteArray).toList.isEmpty = false := by
  rw [Lib.toList_data]
  cases f with
  | nil => exact absurd rfl h
  | cons _ _ => rfl

theorem small (s : ByteArray) (w : World) (hs : s.size ≤ maxLen) (hbig : 65536 < s.size) :
    Calls Tryd.prog 6 #[.string s] w fun e w' => e = .returned (.bool true) ∧ Below w.heap.size w w' := by
  have h14 := bytes14 s w hs
  unfold maxLen at hs
  go_enter Tryd.func6, Tryd.ntmps6
  go_wp2_with fail
  refine h14.mono ?_
  rintro e w1 ⟨rfl, rfl⟩
  by_cases h : s.size ≤ 1048576
  · have hd : decide (s.size ≤ 1048576) = true := decide_eq_true h
    rw [hd]
    go_wp2
    go_ret
    exact ⟨rfl, Below.refl _ _⟩
  · have hd : decide (s.size ≤ 1048576) = false := decide_eq_false h
    rw [hd]
    go_wp2
    go_ret
    exact ⟨rfl, Below.refl _ _⟩

set_option maxHeartbeats 1000000 in
theorem tokens (s : ByteArray) (w : World) (hs : s.size ≤ maxLen) (hsm : s.size ≤ 65536) :
    Calls Tryd.prog 6 #[.string s] w fun e w' => e = .returned (.bool true) ∧ Below w.heap.size w w' := by
  have h14 := bytes14 s w hs
  rw [decide_eq_true (show s.size ≤ 1048576 by omega)] at h14
  clear hs
  have hls : s.data.toList.length = s.size := (Lib.size_eq s).symm
  go_enter Tryd.func6, Tryd.ntmps6
  go_wp2_with fail
  refine h14.mono ?_
  rintro e w1 ⟨rfl, rfl⟩
  clear h14
  go_wp2_with fail
  go_loop [3, 4, 5] (fun wd nb i => ∃ k a b : Nat, k ≤ s.size ∧ i = .int .i64 k ∧ wd = .int .i64 a ∧ nb = .int .i64 b ∧ a ≤ k ∧ b ≤ k ∧ Hid (a + wdl (prevB s.data.toList k) (s.data.toList.drop k) = wdl true s.data.toList ∧ b + nbl (s.data.toList.drop k) = nbl s.data.toList)) (fun _ _ i => s.size - (RowKit.intOf i).toNat)
  case atStart => exact ⟨0, 0, 0, Nat.zero_le _, rfl, rfl, rfl, by omega, by omega, by simp [Hid, prevB]⟩
  case round =>
    obtain ⟨k, a, b, hk, rfl, rfl, rfl, ha, hb, HE⟩ := hrel
    by_cases hlt : k < s.size
    · obtain ⟨x, hx⟩ : ∃ x : UInt8, s[k]'hlt = x := ⟨_, rfl⟩
      have hxl : s.data.toList[k]? = some x := by rw [← hx]; exact Lib.data_getElem? s k hlt
      have HS : Hid (_ ∧ _) := ⟨wdl_step hxl, nbl_step hxl⟩
      clear hxl
      cases hbx : blk x
      · rw [hbx] at HS
        cases k with
        | zero =>
          go_wp2_with (go_at_call 11; refine (isBlank_any _ _).mono ?_; rintro e w' ⟨rfl, rfl⟩)
          go_round
          case rel =>
            refine ⟨1, a + 1, b + 1, by omega, by go_num, by go_num, by go_num, by omega, by omega, ?_⟩
            have h1 := HE.out; have h2 := HS.out
            simp [prevB] at h1 h2
            refine ⟨?_, ?_⟩
            · simp [prevB]; omega
            · simp; omega
          case measure => simp [RowKit.intOf]; omega
        | succ j =>
          obtain ⟨y, hy⟩ : ∃ y : UInt8, s[j]'(by omega) = y := ⟨_, rfl⟩
          have hyl : s.data.toList[j]? = some y := by rw [← hy]; exact Lib.data_getElem? s j (by omega)
          have HP : Hid (prevB s.data.toList (j + 1) = blk y) := prevB_succ hyl
          clear hyl
          cases hby : blk y
          · go_wp2_with (go_at_call 11; refine (isBlank_any _ _).mono ?_; rintro e w' ⟨rfl, rfl⟩)
            go_round
            case rel =>
              refine ⟨j + 1 + 1, a, b + 1, by omega, by go_num, rfl, by go_num, by omega, by omega, ?_⟩
              have h1 := HE.out; have h2 := HS.out
              rw [HP.out, hby] at h1 h2
              simp at h1 h2
              exact ⟨by omega, by omega⟩
            case measure => simp [RowKit.intOf]; omega
          · go_wp2_with (go_at_call 11; refine (isBlank_any _ _).mono ?_; rintro e w' ⟨rfl, rfl⟩)
            go_round
            case rel =>
              refine ⟨j + 1 + 1, a + 1, b + 1, by omega, by go_num, by go_num, by go_num, by omega, by omega, ?_⟩
              have h1 := HE.out; have h2 := HS.out
              rw [HP.out, hby] at h1 h2
              simp at h1 h2
              exact ⟨by omega, by omega⟩
            case measure => simp [RowKit.intOf]; omega
      · rw [hbx] at HS
        go_wp2_with (go_at_call 11; refine (isBlank_any _ _).mono ?_; rintro e w' ⟨rfl, rfl⟩)
        go_round
        case rel =>
          refine ⟨k + 1, a, b, by omega, by go_num, rfl, rfl, by omega, by omega, ?_⟩
          have h1 := HE.out; have h2 := HS.out
          simp at h1 h2
          exact ⟨by omega, by omega⟩
        case measure => simp [RowKit.intOf]; omega
    · have HW : Hid (a = wdl true s.data.toList ∧ b = nbl s.data.toList) := by
        have h1 := HE.out
        rw [List.drop_of_length_le (by omega)] at h1
        simp [wdl, nbl] at h1
        exact ⟨h1.1, h1.2⟩
      clear HE
      go_wp2_with fail
      go_loopg [6, 7, 8, 9] (s.size + 1) (fun g rest c t st wx => ∃ (L : ByteArray) (a b k : Nat), rest = .string L ∧ c = .int .i64 a ∧ t = .int .i64 b ∧ st = .int .i64 k ∧ k + L.size ≤ s.size ∧ L.size + 1 ≤ g ∧ a ≤ s.size ∧ b ≤ s.size ∧ Hid (a + wdl true L.data.toList = wdl true s.data.toList ∧ b + nbl L.data.toList = nbl s.data.toList) ∧ Below w1.heap.size w1 wx)
      case atStart => exact ⟨s, 0, 0, 0, rfl, rfl, rfl, rfl, by omega, by omega, by omega, by omega, by simp [Hid], Below.refl _ _⟩
      case round =>
        obtain ⟨L, a2, b2, k2, rfl, rfl, rfl, rfl, hk2, hg, ha2, hb2, HE, hBw⟩ := hrel
        have hwl := wdl_le true s.data.toList
        have hnl := nbl_le s.data.toList
        by_cases hf : fF L.data.toList = []
        · have hz := zzfield_nil L wr (by omega) hf
          obtain ⟨_, q2, q3⟩ := f_nil hf
          have hcw : ((a2 : Int) == (a : Int)) = true := by
            have := HE.out.1; have := HW.out.1; simp; omega
          have htn : ((b2 : Int) == (b : Int)) = true := by
            have := HE.out.2; have := HW.out.2; simp; omega
          clear q2 q3 hwl hnl hf
          go_wp2_with fail
          refine hz.mono ?_
          rintro e w2 ⟨rfl, hB2⟩
          go_wp2
          go_ret
          exact ⟨rfl, hBw.trans (hB2.mono hBw.size)⟩
        · have hz := zzfield_any L wr (by omega)
          obtain ⟨q1, q2, q3⟩ := f_some hf
          have he := empty_of_ne hf
          have hfr := fr_len L.data.toList
          have hLs := Lib.size_eq L
          have e1 := Lib.size_mk (fF L.data.toList)
          have e2 := Lib.size_mk (rF L.data.toList)
          obtain ⟨F, hF⟩ : ∃ F : ByteArray, F = ⟨(fF L.data.toList).toArray⟩ := ⟨_, rfl⟩
          obtain ⟨R, hR⟩ : ∃ R : ByteArray, R = ⟨(rF L.data.toList).toArray⟩ := ⟨_, rfl⟩
          rw [← hF] at hz he e1
          rw [← hR] at hz e2
          have HR : Hid (R.data.toList = rF L.data.toList) := by show R.data.toList = _; rw [hR]
          have HQ : Hid (wdl true L.data.toList = 1 + wdl true (rF L.data.toList) ∧ nbl L.data.toList = F.size + nbl (rF L.data.toList)) := ⟨q1, by rw [e1]; exact q2⟩
          have hRL : R.size < L.size := by omega
          have hb3 : b2 + F.size ≤ s.size := by have := HE.out.2; omega
          have ha3 : a2 + 1 ≤ s.size := by have := HE.out.1; omega
          clear q1 q2 q3 hfr hLs e1 e2 hF hR hf hwl hnl
          go_wp2_with fail
          refine hz.mono ?_
          rintro e w2 ⟨rfl, hB2⟩
          go_wp2
          go_roundg (gk - 1)
          case measure => omega
          case rel =>
            refine ⟨R, a2 + 1, b2 + F.size, k2 + 1, rfl, by go_num, by go_num, by go_num, by omega, by omega, by omega, by omega, ?_, hBw.trans (hB2.mono hBw.size)⟩
            have h1 := HE.out; have h2 := HQ.out
            exact ⟨by rw [HR.out]; omega, by rw [HR.out]; omega⟩

theorem tokens_any (s : ByteArray) (w : World) (hs : s.size ≤ maxLen) :
    Calls Tryd.prog 6 #[.string s] w fun e w' => e = .returned (.bool true) ∧ Below w.heap.size w w' := by
  by_cases h : s.size ≤ 65536
  · exact tokens s w hs h
  · exact small s w hs (by omega)
end Go.Proofs.Qxb6002703aDoor
