/-
  The walk of FnLineMatchesSpec.
-/
import Derived.Test.Qxb6002908aDoorZz
namespace Go.Proofs.Qxb6002908aDoor
open Go.RowKit Go.Shelf Go.Lib

/-- What the law is handed. -/
structure LawIn (w : World) (p : Option Addr) (n c pos sc : Nat) (l : List UInt8) : Prop where
  buf : BufIn w p n c l
  hp : p = none → n = 0 ∧ c = 0
  hpos : pos ≤ n
  hsc : sc ≤ n - pos

/-- The copy. -/
theorem clone_buf {w : World} {p : Option Addr} {n c : Nat} {l : List UInt8} (h : BufIn w p n c l) (hp : p = none → n = 0 ∧ c = 0) :
    ∃ q d, n ≤ d ∧ d ≤ 1048576 ∧ (∀ W, Below w.heap.size w W → True) ∧ Calls Tryd.prog 7 #[.slice p n c] w fun e w' => e = .returned (.slice q n d) ∧ BufIn w' q n d l ∧ Below w.heap.size w w' := by
  cases p with
  | none =>
    obtain ⟨rfl, rfl⟩ := hp rfl
    refine ⟨none, 0, Nat.le_refl _, by omega, fun _ _ => trivial, (clone_nil w).mono ?_⟩
    rintro e w' ⟨rfl, rfl⟩
    exact ⟨rfl, h, Below.refl _ _⟩
  | some a =>
    refine ⟨some ⟨w.heap.size, 0, none⟩, n, Nat.le_refl _, h.small, fun _ _ => trivial, (clone_any a n c l w h.len h.bat h.small).mono ?_⟩
    rintro e w' ⟨rfl, hB, hb, _⟩
    exact ⟨rfl, ⟨h.len, Nat.le_refl _, by have := h.small; omega, h.small, h.libs.below hb, hB⟩, hb⟩

set_option maxHeartbeats 400000 in
set_option maxRecDepth 100000 in
theorem early (p : Option Addr) (n c : Nat) (pos sc : Int) (fin : Bool) (w : World) (hn : n ≤ maxLen) (h1 : -9223372036854775808 ≤ pos ∧ pos ≤ 9223372036854775807) (h2 : -9223372036854775808 ≤ sc ∧ sc ≤ 9223372036854775807)
    (hout : 1048576 < n ∨ pos < 0 ∨ (n : Int) < pos ∨ sc < 0 ∨ (n : Int) - pos < sc) :
    Calls Tryd.prog 3 #[.slice p n c, .int .i64 pos, .int .i64 sc, .bool fin] w fun e w' => e = .returned (.bool true) ∧ Below w.heap.size w w' := by
  have h5 := bytes5 p n c pos sc fin w hn
  unfold maxLen at hn
  by_cases hbig : n ≤ 1048576
  · rw [decide_eq_true hbig] at h5
    by_cases a1 : pos < 0
    · go_enter Tryd.func3, Tryd.ntmps3
      go_wp2_with (go_at_call 5; refine h5.mono ?_; rintro e w' ⟨rfl, rfl⟩)
      go_ret
      exact ⟨rfl, Below.refl _ _⟩
    by_cases a2 : (n : Int) < pos
    · have a1' : 0 ≤ pos := by omega
      go_enter Tryd.func3, Tryd.ntmps3
      go_wp2_with (go_at_call 5; refine h5.mono ?_; rintro e w' ⟨rfl, rfl⟩)
      go_ret
      exact ⟨rfl, Below.refl _ _⟩
    by_cases a3 : sc < 0
    · have a1' : 0 ≤ pos := by omega
      have a2' : pos ≤ (n : Int) := by omega
      go_enter Tryd.func3, Tryd.ntmps3
      go_wp2_with (go_at_call 5; refine h5.mono ?_; rintro e w' ⟨rfl, rfl⟩)
      go_ret
      exact ⟨rfl, Below.refl _ _⟩
    · have a1' : 0 ≤ pos := by omega
      have a2' : pos ≤ (n : Int) := by omega
      have a3' : 0 ≤ sc := by omega
      have a4 : (n : Int) - pos < sc := by omega
      go_enter Tryd.func3, Tryd.ntmps3
      go_wp2_with (go_at_call 5; refine h5.mono ?_; rintro e w' ⟨rfl, rfl⟩)
      go_ret
      exact ⟨rfl, Below.refl _ _⟩
  · rw [decide_eq_false hbig] at h5
    go_enter Tryd.func3, Tryd.ntmps3
    go_wp2_with (go_at_call 5; refine h5.mono ?_; rintro e w' ⟨rfl, rfl⟩)
    go_ret
    exact ⟨rfl, Below.refl _ _⟩

set_option maxHeartbeats 1000000 in
set_option maxRecDepth 100000 in
theorem match_end (p : Option Addr) (n c pos sc : Nat) (fin : Bool) (l : List UInt8) (w : World) (h : LawIn w p n c pos sc l) (hpe : pos = n) :
    Calls Tryd.prog 3 #[.slice p n c, .int .i64 (pos : Int), .int .i64 (sc : Int), .bool fin] w fun e w' => e = .returned (.bool true) ∧ Below w.heap.size w w' := by
  have hsm := h.buf.small; have hps := h.hpos; have hss := h.hsc
  have h5 := bytes5 p n c (pos : Int) (sc : Int) fin w (by unfold maxLen; omega)
  rw [decide_eq_true hsm] at h5
  have HI : Hid (LawIn w p n c pos sc l) := h
  have HC : Hid (∃ q d, n ≤ d ∧ d ≤ 1048576 ∧ (∀ W, Below w.heap.size w W → True) ∧ Calls Tryd.prog 7 #[.slice p n c] w fun e w' => e = .returned (.slice q n d) ∧ BufIn w' q n d l ∧ Below w.heap.size w w') := clone_buf h.buf h.hp
  clear h
  have hnp : n - pos = 0 := by omega
  have hnp2 : (n : Int) - (pos : Int) = 0 := by omega
  clear hpe
  go_enter Tryd.func3, Tryd.ntmps3
  go_wp2_with fail
  refine h5.mono ?_
  rintro e w0 ⟨rfl, rfl⟩
  clear h5
  go_wp2_with fail
  go_loopg [9] sc (fun g i wx => ∃ k : Nat, k ≤ sc ∧ sc ≤ k + g ∧ i = .int .i64 k ∧ wx = w0 ∧ Hid (Lib.NoAny (l.drop pos) [13, 10] k))
  case atStart => exact ⟨0, Nat.zero_le _, by omega, rfl, rfl, Lib.NoAny.zero _ _⟩
  case round =>
    obtain ⟨k1, hk1, hg1, rfl, rfl, HN⟩ := hrel
    by_cases hlt : k1 < sc
    · exfalso; omega
    · obtain rfl : k1 = sc := by omega
      obtain ⟨q, d, hnd, hd, _, hcl⟩ := HC.out
      have HCl : Hid (Calls _ _ _ _ _) := hcl
      clear hcl
      go_wp2_with fail
      refine HCl.out.mono ?_
      rintro e w1 ⟨rfl, hb1, hB1⟩
      have HB1 : Hid (BufIn w1 q n d l) := hb1
      clear hb1
      by_cases hdp : pos = d
      · subst hdp
        go_wp2_with fail
        refine (zz_none HB1.out (pos := pos) (sc := k1) fin (by omega) (by omega) (fun j x hj _ => by omega)).mono ?_
        rintro e w2 ⟨rfl, hB2⟩
        rw [hnp]
        go_wp2_with fail
        go_loopg [15, 16] 0 (fun _ kk j wx => kk = .int .i64 (-1) ∧ j = .int .i64 0 ∧ wx = w2)
        case atStart => exact ⟨rfl, rfl, rfl⟩
        case round =>
          obtain ⟨rfl, rfl, rfl⟩ := hrel
          have hq := eqlNil
          go_wp2
          go_ret
          exact ⟨rfl, hB1.trans (hB2.mono hB1.size)⟩
      · have hdp' : ¬ d = pos := fun e => hdp e.symm
        clear hdp
        go_wp2_with fail
        refine (zz_none HB1.out (pos := pos) (sc := k1) fin (by omega) (by omega) (fun j x hj _ => by omega)).mono ?_
        rintro e w2 ⟨rfl, hB2⟩
        rw [hnp]
        go_wp2_with fail
        go_loopg [15, 16] 0 (fun _ kk j wx => kk = .int .i64 (-1) ∧ j = .int .i64 0 ∧ wx = w2)
        case atStart => exact ⟨rfl, rfl, rfl⟩
        case round =>
          obtain ⟨rfl, rfl, rfl⟩ := hrel
          have hq := eqlNil
          go_wp2
          go_ret
          exact ⟨rfl, hB1.trans (hB2.mono hB1.size)⟩
set_option maxHeartbeats 1000000 in
set_option maxRecDepth 100000 in
theorem match_none (p : Option Addr) (n c pos sc : Nat) (fin : Bool) (l : List UInt8) (w : World) (h : LawIn w p n c pos sc l) (hpn : pos < n) (hno : Lib.NoAny (l.drop pos) [13, 10] (n - pos)) :
    Calls Tryd.prog 3 #[.slice p n c, .int .i64 (pos : Int), .int .i64 (sc : Int), .bool fin] w fun e w' => e = .returned (.bool true) ∧ Below w.heap.size w w' := by
  have hsm := h.buf.small; have hps := h.hpos; have hss := h.hsc
  have h5 := bytes5 p n c (pos : Int) (sc : Int) fin w (by unfold maxLen; omega)
  rw [decide_eq_true hsm] at h5
  have HI : Hid (LawIn w p n c pos sc l) := h
  have HC : Hid (∃ q d, n ≤ d ∧ d ≤ 1048576 ∧ (∀ W, Below w.heap.size w W → True) ∧ Calls Tryd.prog 7 #[.slice p n c] w fun e w' => e = .returned (.slice q n d) ∧ BufIn w' q n d l ∧ Below w.heap.size w w') := clone_buf h.buf h.hp
  clear h
  have HNO : Hid (Lib.NoAny (l.drop pos) [13, 10] (n - pos)) := hno
  clear hno
  go_enter Tryd.func3, Tryd.ntmps3
  go_wp2_with fail
  refine h5.mono ?_
  rintro e w0 ⟨rfl, rfl⟩
  clear h5
  go_wp2_with fail
  go_loopg [9] sc (fun g i wx => ∃ k : Nat, k ≤ sc ∧ sc ≤ k + g ∧ i = .int .i64 k ∧ wx = w0 ∧ Hid (Lib.NoAny (l.drop pos) [13, 10] k))
  case atStart => exact ⟨0, Nat.zero_le _, by omega, rfl, rfl, Lib.NoAny.zero _ _⟩
  case round =>
    obtain ⟨k1, hk1, hg1, rfl, rfl, HN⟩ := hrel
    by_cases hlt : k1 < sc
    · have hl1 : pos + k1 < l.length := by rw [HI.out.buf.len]; omega
      obtain ⟨x1, hx1⟩ : ∃ x, l[pos + k1]? = some x := ⟨_, List.getElem?_eq_getElem hl1⟩
      obtain ⟨b0, o0, hpa, hc0⟩ := HI.out.buf.ne (pos := pos) (by omega)
      subst hpa
      have hcx := hc0 _ _ hx1
      have HX : Hid ((l.drop pos)[k1]? = some x1) := by show _ = _; rw [List.getElem?_drop]; exact hx1
      clear hx1 hc0 hl1
      cases he : lend x1
      · have HE : Hid ([13, 10].contains x1 = false) := he
        go_wp2_with (go_at_call 6; refine (isEnd_any _ _).mono ?_; rintro e w' ⟨rfl, rfl⟩)
        go_roundg (gk - 1)
        case measure => omega
        case rel => exact ⟨k1 + 1, by omega, by omega, by go_num, rfl, HN.out.succ HX.out HE.out⟩
      · go_wp2_with (go_at_call 6; refine (isEnd_any _ _).mono ?_; rintro e w' ⟨rfl, rfl⟩)
        go_ret
        exact ⟨rfl, Below.refl _ _⟩
    · obtain rfl : k1 = sc := by omega
      obtain ⟨q, d, hnd, hd, _, hcl⟩ := HC.out
      have HCl : Hid (Calls _ _ _ _ _) := hcl
      clear hcl
      go_wp2_with fail
      refine HCl.out.mono ?_
      rintro e w1 ⟨rfl, hb1, hB1⟩
      have HB1 : Hid (BufIn w1 q n d l) := hb1
      clear hb1
      obtain ⟨b, o, rfl, hcs⟩ := HB1.out.ne hpn
      have hdp : ¬ d = pos := by omega
      clear hcs
      go_wp2_with fail
      refine (zz_none HB1.out (pos := pos) (sc := k1) fin (by omega) (by omega) HNO.out).mono ?_
      rintro e w2 ⟨rfl, hB2⟩
      have HB2 : Hid (BufIn w2 (some ⟨b, o, none⟩) n d l) := HB1.out.below hB2
      go_wp2_with fail
      go_loopg [15, 16] (n - pos) (fun g kk j wx => ∃ i : Nat, i ≤ n - pos ∧ n - pos ≤ i + g ∧ kk = .int .i64 (-1) ∧ j = .int .i64 i ∧ wx = w2 ∧ Hid (Lib.NoAny (l.drop pos) [13, 10] i))
      case atStart => exact ⟨0, Nat.zero_le _, by omega, rfl, rfl, rfl, Lib.NoAny.zero _ _⟩
      case round =>
        obtain ⟨i, hi, hg2, rfl, rfl, rfl, HN2⟩ := hrel
        by_cases hlt2 : i < n - pos
        · have hl2 : pos + i < l.length := by rw [HI.out.buf.len]; omega
          obtain ⟨x2, hx2⟩ : ∃ x, l[pos + i]? = some x := ⟨_, List.getElem?_eq_getElem hl2⟩
          obtain ⟨b', o', hpa, hcs⟩ := HB2.out.ne hpn
          simp only [Option.some.injEq, Addr.mk.injEq, and_true] at hpa
          obtain ⟨rfl, rfl⟩ := hpa
          have hcx := hcs _ _ hx2
          rw [← Nat.add_assoc] at hcx
          have HX : Hid ((l.drop pos)[i]? = some x2) := by show _ = _; rw [List.getElem?_drop]; exact hx2
          clear hx2 hcs hl2
          cases he : lend x2
          · have HE : Hid ([13, 10].contains x2 = false) := he
            go_wp2_with (go_at_call 6; refine (isEnd_any _ _).mono ?_; rintro e w' ⟨rfl, rfl⟩)
            go_roundg (gk - 1)
            case measure => omega
            case rel => exact ⟨i + 1, by omega, by omega, rfl, by go_num, rfl, HN2.out.succ HX.out HE.out⟩
          · exfalso
            have := HNO.out i x2 hlt2 HX.out
            have h2 : [13, 10].contains x2 = true := he
            rw [h2] at this
            cases this
        · have hq := eqlNil
          go_wp2
          go_ret
          exact ⟨rfl, hB1.trans (hB2.mono hB1.size)⟩
theorem first_uniq {r : List UInt8} {i k : Nat} {x y : UInt8} (h : Lib.NoAny r [13, 10] i) (hx : r[i]? = some x) (he : lend x = true) (hk : FirstEnd r k y) : i = k := by
  rcases Nat.lt_trichotomy i k with h1 | h1 | h1
  · have := hk.no i x h1 hx
    have h2 : [13, 10].contains x = true := he
    rw [h2] at this; cases this
  · exact h1
  · have := h k y h1 hk.atk
    have h2 : [13, 10].contains y = true := hk.isEnd
    rw [h2] at this; cases this

end Go.Proofs.Qxb6002908aDoor
