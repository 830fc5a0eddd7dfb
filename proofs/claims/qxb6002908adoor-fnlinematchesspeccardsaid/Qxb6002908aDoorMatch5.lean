/-
  The walk of FnLineMatchesSpec under one statement.
-/
import Derived.Test.Qxb6002908aDoorMatch2
import Derived.Test.Qxb6002908aDoorMatch3
import Derived.Test.Qxb6002908aDoorMatch4
namespace Go.Proofs.Qxb6002908aDoor
open Go.RowKit Go.Shelf Go.Lib

set_option maxHeartbeats 1000000 in
set_option maxRecDepth 100000 in
theorem match_in (p : Option Addr) (n c pos sc : Nat) (fin : Bool) (l : List UInt8) (w : World) (h : LawIn w p n c pos sc l) (k : Nat) (x : UInt8) (hk : FirstEnd (l.drop pos) k x) (hks : k < sc) :
    Calls Tryd.prog 3 #[.slice p n c, .int .i64 (pos : Int), .int .i64 (sc : Int), .bool fin] w fun e w' => e = .returned (.bool true) ∧ Below w.heap.size w w' := by
  have hsm := h.buf.small; have hps := h.hpos; have hss := h.hsc
  have h5 := bytes5 p n c (pos : Int) (sc : Int) fin w (by unfold maxLen; omega)
  rw [decide_eq_true hsm] at h5
  have HI : Hid (LawIn w p n c pos sc l) := h
  have HC : Hid (∃ q d, n ≤ d ∧ d ≤ 1048576 ∧ (∀ W, Below w.heap.size w W → True) ∧ Calls Tryd.prog 7 #[.slice p n c] w fun e w' => e = .returned (.slice q n d) ∧ BufIn w' q n d l ∧ Below w.heap.size w w') := clone_buf h.buf h.hp
  clear h
  have HK : Hid (FirstEnd (l.drop pos) k x) := hk
  clear hk
  go_enter Tryd.func3, Tryd.ntmps3
  go_wp2_with fail
  refine h5.mono ?_
  rintro e w0 ⟨rfl, rfl⟩
  clear h5
  go_wp2_with fail
  go_loopg [9] sc (fun g i wx => ∃ k : Nat, k ≤ sc ∧ sc ≤ k + g ∧ i = .int .i64 k ∧ wx = w0 ∧ Hid (Lib.NoAny (l.drop pos) [13, 10] k))
  case atStart => exact ⟨0, Nat.zero_le _, by omega, rfl, rfl, Lib.NoAny.zero _ _⟩
  case round =>
    obtain ⟨k1, hk1, hg1, rfl, rfl, HN⟩ := hrel
    by_cases hlt : k1 < sc
    · have hl1 : pos + k1 < l.length := by rw [HI.out.buf.len]; omega
      obtain ⟨x1, hx1⟩ : ∃ x, l[pos + k1]? = some x := ⟨_, List.getElem?_eq_getElem hl1⟩
      obtain ⟨b0, o0, hpa, hc0⟩ := HI.out.buf.ne (pos := pos) (by omega)
      subst hpa
      have hcx := hc0 _ _ hx1
      have HX : Hid ((l.drop pos)[k1]? = some x1) := by show _ = _; rw [List.getElem?_drop]; exact hx1
      clear hx1 hc0 hl1
      cases he : lend x1
      · have HE : Hid ([13, 10].contains x1 = false) := he
        go_wp2_with (go_at_call 6; refine (isEnd_any _ _).mono ?_; rintro e w' ⟨rfl, rfl⟩)
        go_roundg (gk - 1)
        case measure => omega
        case rel => exact ⟨k1 + 1, by omega, by omega, by go_num, rfl, HN.out.succ HX.out HE.out⟩
      · go_wp2_with (go_at_call 6; refine (isEnd_any _ _).mono ?_; rintro e w' ⟨rfl, rfl⟩)
        go_ret
        exact ⟨rfl, Below.refl _ _⟩
    · obtain rfl : k1 = sc := by omega
      obtain ⟨q, d, hnd, hd, _, hcl⟩ := HC.out
      have HCl : Hid (Calls _ _ _ _ _) := hcl
      clear hcl
      go_wp2_with fail
      refine HCl.out.mono ?_
      rintro e w1 ⟨rfl, hb1, hB1⟩
      have HB1 : Hid (BufIn w1 q n d l) := hb1
      clear hb1
      exfalso
      have h2 := HN.out k _ (by omega) HK.out.atk
      have h3 := HK.out.isEnd
      unfold lend at h3
      rw [h2] at h3
      cases h3

theorem first_or : ∀ (r : List UInt8), Lib.NoAny r [13, 10] r.length ∨ ∃ k x, FirstEnd r k x
  | [] => .inl fun j b hj _ => absurd hj (Nat.not_lt_zero _)
  | b :: t => by
    cases hb : lend b
    · rcases first_or t with h | ⟨k, x, hk⟩
      · refine .inl fun j y hj hy => ?_
        cases j with
        | zero => simp at hy; subst hy; exact hb
        | succ j => exact h j y (by simp at hj; omega) (by simpa using hy)
      · refine .inr ⟨k + 1, x, fun j y hj hy => ?_, by simpa using hk.atk, hk.isEnd⟩
        cases j with
        | zero => simp at hy; subst hy; exact hb
        | succ j => exact hk.no j y (by omega) (by simpa using hy)
    · exact .inr ⟨0, b, Lib.NoAny.zero _ _, rfl, hb⟩

theorem lend_cases {x : UInt8} (h : lend x = true) : x = 13 ∨ x = 10 := by
  unfold lend at h
  simpa using h

/-- FnLineMatchesSpec, at every input. -/
theorem match_any (p : Option Addr) (n c : Nat) (pos sc : Int) (fin : Bool) (l : List UInt8) (w : World) (hl : l.length = n) (hnc : n ≤ c) (hc : c ≤ 9223372036854775807) (hp : p = none → n = 0 ∧ c = 0) (hB : BAt w p l) (hL : Libs w)
    (h1 : -9223372036854775808 ≤ pos ∧ pos ≤ 9223372036854775807) (h2 : -9223372036854775808 ≤ sc ∧ sc ≤ 9223372036854775807) :
    Calls Tryd.prog 3 #[.slice p n c, .int .i64 pos, .int .i64 sc, .bool fin] w fun e w' => e = .returned (.bool true) ∧ Below w.heap.size w w' := by
  by_cases hout : 1048576 < n ∨ pos < 0 ∨ (n : Int) < pos ∨ sc < 0 ∨ (n : Int) - pos < sc
  · exact early p n c pos sc fin w (by unfold maxLen; omega) h1 h2 hout
  obtain ⟨P, rfl⟩ : ∃ P : Nat, pos = P := ⟨pos.toNat, by omega⟩
  obtain ⟨S, rfl⟩ : ∃ S : Nat, sc = S := ⟨sc.toNat, by omega⟩
  have h : LawIn w p n c P S l := ⟨⟨hl, hnc, hc, by omega, hL, hB⟩, hp, by omega, by omega⟩
  by_cases hpe : P = n
  · exact match_end p n c P S fin l w h hpe
  have hpn : P < n := by omega
  rcases first_or (l.drop P) with hno | ⟨k, x, hk⟩
  · rw [List.length_drop, hl] at hno
    exact match_none p n c P S fin l w h hpn hno
  by_cases hks : k < S
  · exact match_in p n c P S fin l w h k x hk hks
  have hlt := hk.lt hl
  rcases lend_cases hk.isEnd with rfl | rfl
  · by_cases hend : k + 1 = n - P
    · cases fin with
      | false => exact match_held p n c P S false l w h k hk (by omega) hend rfl
      | true => exact match_crlast p n c P S true l w h k hk (by omega) hend rfl
    · obtain ⟨y, hy⟩ : ∃ y, (l.drop P)[k + 1]? = some y := ⟨_, List.getElem?_eq_getElem (by rw [List.length_drop, hl]; omega)⟩
      by_cases hy10 : y = 10
      · exact match_crlf p n c P S fin l w h k y hk (by omega) hy hy10
      · exact match_crother p n c P S fin l w h k y hk (by omega) hy hy10
  · exact match_lf p n c P S fin l w h k hk (by omega)
end Go.Proofs.Qxb6002908aDoor
