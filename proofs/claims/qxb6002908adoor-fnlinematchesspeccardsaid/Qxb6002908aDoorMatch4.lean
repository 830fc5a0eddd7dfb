/-
  The walk of FnLineMatchesSpec where a line end is found.
-/
import Derived.Test.Qxb6002908aDoorMatch
namespace Go.Proofs.Qxb6002908aDoor
open Go.RowKit Go.Shelf Go.Lib

set_option maxHeartbeats 1000000 in
set_option maxRecDepth 100000 in
theorem match_crlf (p : Option Addr) (n c pos sc : Nat) (fin : Bool) (l : List UInt8) (w : World) (h : LawIn w p n c pos sc l) (k : Nat) (y : UInt8) (hk : FirstEnd (l.drop pos) k 13) (hsk : sc ≤ k) (hy : (l.drop pos)[k + 1]? = some y) (hy10 : y = 10) :
    Calls Tryd.prog 3 #[.slice p n c, .int .i64 (pos : Int), .int .i64 (sc : Int), .bool fin] w fun e w' => e = .returned (.bool true) ∧ Below w.heap.size w w' := by
  have hsm := h.buf.small; have hps := h.hpos; have hss := h.hsc
  have h5 := bytes5 p n c (pos : Int) (sc : Int) fin w (by unfold maxLen; omega)
  rw [decide_eq_true hsm] at h5
  have HI : Hid (LawIn w p n c pos sc l) := h
  have HC : Hid (∃ q d, n ≤ d ∧ d ≤ 1048576 ∧ (∀ W, Below w.heap.size w W → True) ∧ Calls Tryd.prog 7 #[.slice p n c] w fun e w' => e = .returned (.slice q n d) ∧ BufIn w' q n d l ∧ Below w.heap.size w w') := clone_buf h.buf h.hp
  clear h
  have hpn : pos < n := by have := hk.lt HI.out.buf.len; omega
  have HK : Hid (FirstEnd (l.drop pos) k 13) := hk
  have hyl : pos + (k + 1) < n := by
    have := (List.getElem?_eq_some_iff.1 hy).1
    rw [List.length_drop, HI.out.buf.len] at this
    omega
  have HY : Hid ((l.drop pos)[k + 1]? = some y) := hy
  have hkk : ((k : Int) == ((n - pos : Nat) : Int) - 1) = false := by rw [beq_eq_false_iff_ne]; omega
  have hkl : (k : Int) + 1 < ((n - pos : Nat) : Int) := by omega
  have hkn : k < n - pos := by omega
  clear hk hy
  have hyb : ((y.toNat : Int) == 10) = true := by rw [hy10]; rfl
  have HYY : Hid ((l.drop pos)[k + 1]? = some 10) := by have := HY.out; rw [hy10] at this; exact this
  clear hy10
  go_enter Tryd.func3, Tryd.ntmps3
  go_wp2_with fail
  refine h5.mono ?_
  rintro e w0 ⟨rfl, rfl⟩
  clear h5
  go_wp2_with fail
  go_loopg [9] sc (fun g i wx => ∃ k : Nat, k ≤ sc ∧ sc ≤ k + g ∧ i = .int .i64 k ∧ wx = w0 ∧ Hid (Lib.NoAny (l.drop pos) [13, 10] k))
  case atStart => exact ⟨0, Nat.zero_le _, by omega, rfl, rfl, Lib.NoAny.zero _ _⟩
  case round =>
    obtain ⟨k1, hk1, hg1, rfl, rfl, HN⟩ := hrel
    by_cases hlt : k1 < sc
    · have hl1 : pos + k1 < l.length := by rw [HI.out.buf.len]; omega
      obtain ⟨x1, hx1⟩ : ∃ x, l[pos + k1]? = some x := ⟨_, List.getElem?_eq_getElem hl1⟩
      obtain ⟨b0, o0, hpa, hc0⟩ := HI.out.buf.ne (pos := pos) (by omega)
      subst hpa
      have hcx := hc0 _ _ hx1
      have HX : Hid ((l.drop pos)[k1]? = some x1) := by show _ = _; rw [List.getElem?_drop]; exact hx1
      clear hx1 hc0 hl1
      cases he : lend x1
      · have HE : Hid ([13, 10].contains x1 = false) := he
        go_wp2_with (go_at_call 6; refine (isEnd_any _ _).mono ?_; rintro e w' ⟨rfl, rfl⟩)
        go_roundg (gk - 1)
        case measure => omega
        case rel => exact ⟨k1 + 1, by omega, by omega, by go_num, rfl, HN.out.succ HX.out HE.out⟩
      · go_wp2_with (go_at_call 6; refine (isEnd_any _ _).mono ?_; rintro e w' ⟨rfl, rfl⟩)
        go_ret
        exact ⟨rfl, Below.refl _ _⟩
    · obtain rfl : k1 = sc := by omega
      obtain ⟨q, d, hnd, hd, _, hcl⟩ := HC.out
      have HCl : Hid (Calls _ _ _ _ _) := hcl
      clear hcl
      go_wp2_with fail
      refine HCl.out.mono ?_
      rintro e w1 ⟨rfl, hb1, hB1⟩
      have HB1 : Hid (BufIn w1 q n d l) := hb1
      clear hb1
      obtain ⟨b, o, rfl, hcs⟩ := HB1.out.ne hpn
      have hdp : ¬ d = pos := by omega
      clear hcs
      go_wp2_with fail
      refine (zz_got2 HB1.out (pos := pos) (sc := k1) (k := k) fin HK.out hsk HYY.out).mono ?_
      rintro e w2 ⟨rfl, hB2⟩
      have HB2 : Hid (BufIn w2 (some ⟨b, o, none⟩) n d l) := HB1.out.below hB2
      go_wp2_with fail
      go_loopg [15, 16] (n - pos) (fun g kk j wx => ∃ i : Nat, i ≤ n - pos ∧ n - pos ≤ i + g ∧ kk = .int .i64 (-1) ∧ j = .int .i64 i ∧ wx = w2 ∧ Hid (Lib.NoAny (l.drop pos) [13, 10] i))
      case atStart => exact ⟨0, Nat.zero_le _, by omega, rfl, rfl, rfl, Lib.NoAny.zero _ _⟩
      case round =>
        obtain ⟨i, hi, hg2, rfl, rfl, rfl, HN2⟩ := hrel
        by_cases hlt2 : i < n - pos
        · have hl2 : pos + i < l.length := by rw [HI.out.buf.len]; omega
          obtain ⟨x2, hx2⟩ : ∃ x, l[pos + i]? = some x := ⟨_, List.getElem?_eq_getElem hl2⟩
          obtain ⟨b', o', hpa, hcs⟩ := HB2.out.ne hpn
          simp only [Option.some.injEq, Addr.mk.injEq, and_true] at hpa
          obtain ⟨rfl, rfl⟩ := hpa
          have hcx := hcs _ _ hx2
          rw [← Nat.add_assoc] at hcx
          have HX : Hid ((l.drop pos)[i]? = some x2) := by show _ = _; rw [List.getElem?_drop]; exact hx2
          clear hx2 hcs hl2
          cases he : lend x2
          · have HE : Hid ([13, 10].contains x2 = false) := he
            go_wp2_with (go_at_call 6; refine (isEnd_any _ _).mono ?_; rintro e w' ⟨rfl, rfl⟩)
            go_roundg (gk - 1)
            case measure => omega
            case rel => exact ⟨i + 1, by omega, by omega, rfl, by go_num, rfl, HN2.out.succ HX.out HE.out⟩
          · have hik : i = k := first_uniq HN2.out HX.out he HK.out
            subst hik
            have hxx : x2 = 13 := Option.some.inj (HX.out.symm.trans HK.out.atk)
            have H13 : Hid (x2 = 13) := hxx
            have hb13 : ((x2.toNat : Int) == 13) = true := by rw [hxx]; rfl
            clear hxx
            obtain ⟨b', o', hpa, hcs⟩ := HB2.out.ne hpn
            simp only [Option.some.injEq, Addr.mk.injEq, and_true] at hpa
            obtain ⟨rfl, rfl⟩ := hpa
            have hcy : wr.cell? ⟨b, o + pos + (i + 1), none⟩ = some (.int .u8 (y.toNat : Int)) := by
              have := hcs (pos + (i + 1)) y (by rw [← List.getElem?_drop]; exact HY.out)
              rw [← Nat.add_assoc] at this
              exact this
            clear hcs
            have HS : Hid (∀ W, Below wr.heap.size wr W → Calls Tryd.prog 9 #[.slice (some ⟨b, o + pos, none⟩) i (d - pos), .slice (some ⟨b, o + pos, none⟩) i (d - pos)] W fun e w' => e = .returned (.bool true) ∧ Below W.heap.size W w') := fun W hW => by
              have hb : BAt W (some ⟨b, o + pos, none⟩) ((l.drop pos).take i) := by
                intro _
                refine ⟨b, o + pos, rfl, fun j y hy => ?_⟩
                rw [List.getElem?_take] at hy
                split at hy
                · rw [List.getElem?_drop] at hy
                  obtain ⟨b', o', hpa, hcs⟩ := (HB2.out.below hW).ne hpn
                  simp only [Option.some.injEq, Addr.mk.injEq, and_true] at hpa
                  obtain ⟨rfl, rfl⟩ := hpa
                  rw [Nat.add_assoc]
                  exact hcs _ _ hy
                · cases hy
              have hl3 := HI.out.buf.len
              exact same_any _ _ i (d - pos) (d - pos) ((l.drop pos).take i) W (by rw [List.length_take, List.length_drop]; omega) hb hb (by omega)
            go_wp2_with (go_at_call 6; refine (isEnd_any x2 _).mono ?_; rintro e w' ⟨rfl, rfl⟩)
            refine (HS.out _ (Below.refl _ _)).mono ?_
            rintro e w4 ⟨rfl, hB4⟩
            go_wp2
            go_ret
            exact ⟨rfl, (hB1.trans (hB2.mono hB1.size)).trans (hB4.mono (Nat.le_trans hB1.size hB2.size))⟩
        · exfalso
          have h1 := HK.out.lt HI.out.buf.len
          have h2 := HN2.out k _ (by omega) HK.out.atk
          have h3 := HK.out.isEnd
          unfold lend at h3
          rw [h2] at h3
          cases h3
end Go.Proofs.Qxb6002908aDoor
