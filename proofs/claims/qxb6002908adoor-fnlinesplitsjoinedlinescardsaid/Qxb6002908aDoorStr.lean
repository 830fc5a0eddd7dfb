/-
  Slices of strings: their lengths, a copy; bytes against a string.
-/
import Derived.Test.Qxb6002908aDoorSmall
import Derived.Deep.LoopGhost
import Derived.Lib.IndexBytes
import Derived.WalkSmall
namespace Go.Proofs.Qxb6002908aDoor
open Go.RowKit

/-- A slice of the strings ss at address p. -/
def SAt (w : World) (p : Option Addr) (ss : List ByteArray) : Prop := ss ≠ [] → ∃ b o, p = some ⟨b, o, none⟩ ∧ ∀ (i : Nat) s, ss[i]? = some s → w.cell? ⟨b, o + i, none⟩ = some (.string s)

theorem SAt.below {w w' : World} {p : Option Addr} {ss : List ByteArray} (h : SAt w p ss) (hb : Below w.heap.size w w') : SAt w' p ss := fun hl => by
  obtain ⟨b, o, rfl, hc⟩ := h hl
  exact ⟨b, o, rfl, fun i x hx => (hb.cell (p := ⟨b, o + i, none⟩) (World.block_lt_of_cell? _ _ (hc i x hx))).trans (hc i x hx)⟩
theorem SAt.at {w : World} {p : Option Addr} {ss : List ByteArray} (h : SAt w p ss) {k : Nat} (hk : k < ss.length) : ∃ b o s, p = some ⟨b, o, none⟩ ∧ ss[k]? = some s ∧ w.cell? ⟨b, o + k, none⟩ = some (.string s) := by
  obtain ⟨b, o, hp, hc⟩ := h (fun e => by rw [e] at hk; simp at hk)
  exact ⟨b, o, _, hp, List.getElem?_eq_getElem hk, hc _ _ (List.getElem?_eq_getElem hk)⟩

/-- A slice of strings as an argument. -/
structure StrIn (w : World) (p : Option Addr) (n : Nat) (ss : List ByteArray) : Prop where
  len : ss.length = n
  at' : SAt w p ss
  small : ∀ (i : Nat) (s : ByteArray), ss[i]? = some s → s.size ≤ 9223372036854775807
  big : n ≤ 9223372036854775807

theorem StrIn.below {w w' : World} {p : Option Addr} {n : Nat} {ss : List ByteArray} (h : StrIn w p n ss) (hb : Below w.heap.size w w') : StrIn w' p n ss := ⟨h.len, h.at'.below hb, h.small, h.big⟩

set_option maxHeartbeats 1000000 in
set_option maxRecDepth 100000 in
theorem bytes10 (p q : Option Addr) (n m c d : Nat) (ps es : List ByteArray) (w : World) (hp : StrIn w p n ps) (he : StrIn w q m es) :
    Calls Tryd.prog 10 #[.slice p n c, .slice q m d] w fun e w' => (∃ v : Bool, e = .returned (.bool v)) ∧ w' = w := by
  have hn := hp.big
  have hm := he.big
  have HP : Hid (StrIn w p n ps) := hp
  have HE : Hid (StrIn w q m es) := he
  clear hp he
  by_cases h1 : 1048576 < n
  · go_enter Tryd.func10, Tryd.ntmps10
    go_wp2
    go_ret
    exact ⟨⟨_, rfl⟩, rfl⟩
  go_enter Tryd.func10, Tryd.ntmps10
  go_wp2_with fail
  go_loopg [5, 6] n (fun g t i wx => ∃ k u : Nat, k ≤ n ∧ n ≤ k + g ∧ i = .int .i64 k ∧ t = .int .i64 u ∧ u ≤ 1048576 ∧ wx = w)
  case atStart => exact ⟨0, n, by omega, by omega, rfl, by go_num, by omega, rfl⟩
  case round =>
    obtain ⟨k, u, hk, hg, rfl, rfl, hu, rfl⟩ := hrel
    by_cases hlt : k < n
    · obtain ⟨b, o, s, hpa, hs, hc⟩ := HP.out.at'.at (k := k) (by rw [HP.out.len]; exact hlt)
      subst hpa
      have hss := HP.out.small k s hs
      clear hs
      by_cases h2 : 1048576 < s.size
      · go_wp2
        go_ret
        exact ⟨⟨_, rfl⟩, rfl⟩
      by_cases h3 : 1048576 < u + s.size
      · go_wp2
        go_ret
        exact ⟨⟨_, rfl⟩, rfl⟩
      · go_wp2
        go_roundg (gk - 1)
        case measure => omega
        case rel => exact ⟨k + 1, u + s.size, by omega, by omega, by go_num, by go_num, by omega, rfl⟩
    · by_cases h4 : 1048576 < m
      · go_wp2
        go_ret
        exact ⟨⟨_, rfl⟩, rfl⟩
      by_cases h5 : 1048576 < u + m
      · go_wp2
        go_ret
        exact ⟨⟨_, rfl⟩, rfl⟩
      go_wp2_with fail
      go_loopg [5, 7] m (fun g t i wx => ∃ k u : Nat, k ≤ m ∧ m ≤ k + g ∧ i = .int .i64 k ∧ t = .int .i64 u ∧ u ≤ 1048576 ∧ wx = wr)
      case atStart => exact ⟨0, u + m, by omega, by omega, rfl, by go_num, by omega, rfl⟩
      case round =>
        obtain ⟨k2, u2, hk2, hg2, rfl, rfl, hu2, rfl⟩ := hrel
        by_cases hlt2 : k2 < m
        · obtain ⟨b, o, s, hpa, hs, hc⟩ := HE.out.at'.at (k := k2) (by rw [HE.out.len]; exact hlt2)
          subst hpa
          have hss := HE.out.small k2 s hs
          clear hs
          by_cases h2 : 1048576 < s.size
          · go_wp2
            go_ret
            exact ⟨⟨_, rfl⟩, rfl⟩
          by_cases h3 : 1048576 < u2 + s.size
          · go_wp2
            go_ret
            exact ⟨⟨_, rfl⟩, rfl⟩
          · go_wp2
            go_roundg (gk - 1)
            case measure => omega
            case rel => exact ⟨k2 + 1, u2 + s.size, by omega, by omega, by go_num, by go_num, by omega, rfl⟩
        · go_wp2
          go_ret
          exact ⟨⟨_, rfl⟩, rfl⟩

theorem info9 : (Tryd.prog.info? 9).map (fun i => (i.zero, i.size, i.bytes)) = some (some (.string ⟨#[]⟩), 1, 16) := by kernel_rfl
theorem eqlNil29 (w : World) (a : Option Addr) (n c : Nat) : (binOp .eql 29 (.slice a n c) (.slice none 0 0)).run Tryd.prog w = .ok (.bool a.isNone) w :=
  Lib.run_eql_slice_nil w 29 9 a n c 0 0 Tryd.underlying29

theorem cloneS_nil (w : World) : Calls Tryd.prog 11 #[.slice none 0 0] w fun e w' => e = .returned (.slice none 0 0) ∧ w' = w := by
  have hq := eqlNil29
  go_enter Tryd.func11, Tryd.ntmps11
  go_wp2
  go_ret
  exact ⟨rfl, rfl⟩

set_option maxHeartbeats 400000 in
theorem cloneS_any (a : Addr) (n c : Nat) (l : List ByteArray) (w : World) (hl : l.length = n) (hB : SAt w (some a) l) (hn : n ≤ 1048576) :
    Calls Tryd.prog 11 #[.slice (some a) n c] w fun e w' => e = .returned (.slice (some ⟨w.heap.size, 0, none⟩) n n) ∧ SAt w' (some ⟨w.heap.size, 0, none⟩) l ∧ Below w.heap.size w w' := by
  obtain ⟨i0, hi, hz0, hz1, hz2⟩ := info_parts info9
  have HB : Hid (SAt w (some a) l) := hB
  have HLn : Hid (l.length = n) := hl
  clear hB hl
  have hq := eqlNil29
  go_enter Tryd.func11, Tryd.ntmps11
  go_wp2_with (at_make; refine wpList_make_full _ rfl _ _ 29 rfl w.heap.size 9 i0 (.string ⟨#[]⟩) 1 Tryd.underlying29 hi hz0 hz1 _ _ _ _ n rfl rfl (by omega) (by omega) (by rw [hz2]; omega) (by unfold maxLen; omega) (Nat.le_refl _) ?_; intro w1 hown hgrow)
  have HO : Hid (∃ xs : List Value, xs.length = n ∧ w1.ownsRow w.heap.size 9 1 (.slice (some ⟨w.heap.size, 0, none⟩) n n) n xs) := ⟨_, by have := hown.1; omega, hown⟩
  have HW1 : Hid (Below w.heap.size w w1) := (Below.refl _ _).grown hgrow (Nat.le_refl _) (fun k h => by cases h)
  clear hown hgrow hq hi hz0 hz1 hz2
  go_loopw [4] (fun i wr => ∃ (k : Nat) (xs : List Value), k ≤ n ∧ i = .int .i64 k ∧ Hid (xs.length = n ∧ wr.ownsRow w.heap.size 9 1 (.slice (some ⟨w.heap.size, 0, none⟩) n n) n xs ∧ (∀ j x, j < k → l[j]? = some x → xs[j]? = some (.string x)) ∧ Below w.heap.size w wr)) (fun i _ => n - (intOf i).toNat)
  case atStart =>
    obtain ⟨xs, h1, h2⟩ := HO.out
    exact ⟨0, xs, Nat.zero_le _, rfl, h1, h2, fun j x hj => absurd hj (Nat.not_lt_zero _), HW1.out⟩
  case round =>
    obtain ⟨k, xs, hk, rfl, HR⟩ := hrel
    by_cases hlt : k < n
    · obtain ⟨h1, h2, h3, h4⟩ := HR.out
      have hkl : k < l.length := by rw [HLn.out]; exact hlt
      obtain ⟨b, o, x, ha, hx, hck⟩ := HB.out.at hkl
      cases ha
      have hcr : wr.cell? ⟨b, o + k, none⟩ = some (.string x) := (h4.cell (p := ⟨b, o + k, none⟩) (World.block_lt_of_cell? _ _ hck)).trans hck
      have hfr : wr.frozen? ⟨w.heap.size, k, none⟩ = false := h2.frozenAt k
      have hcell : ∃ v, wr.cell? ⟨w.heap.size, k, none⟩ = some v := by
        rw [h2.cellAt k (by omega)]
        exact ⟨_, List.getElem?_eq_getElem (by omega)⟩
      obtain ⟨v0, hv0⟩ := hcell
      obtain ⟨st1, st2⟩ := h2.stored k (.string x)
      have HN : Hid ((xs.set k (.string x)).length = n ∧ (wr.setCell ⟨w.heap.size, k, none⟩ (.string x)).ownsRow w.heap.size 9 1 (.slice (some ⟨w.heap.size, 0, none⟩) n n) n (xs.set k (.string x)) ∧ (∀ j y, j < k + 1 → l[j]? = some y → (xs.set k (.string x))[j]? = some (.string y)) ∧ Below w.heap.size w (wr.setCell ⟨w.heap.size, k, none⟩ (.string x))) := by
        refine ⟨by simpa using h1, st1, fun j y hj hy => ?_, h4.setCell (Nat.le_refl _) _⟩
        by_cases hjk : j = k
        · subst hjk
          rw [hx] at hy
          cases hy
          rw [List.getElem?_set_self (by omega)]
        · rw [List.getElem?_set_ne (by omega)]
          exact h3 j y (by omega) hy
      clear h1 h2 h3 h4 hck hx HR st1 st2 hkl
      go_wp2
      go_roundw
      case rel => exact ⟨k + 1, _, by omega, by go_num, HN⟩
      case measure => simp [intOf]; omega
    · go_wp2
      go_ret
      obtain ⟨h1, h2, h3, h4⟩ := HR.out
      refine ⟨rfl, fun _ => ⟨_, _, rfl, fun i x hx => ?_⟩, h4⟩
      have hil : i < l.length := (List.getElem?_eq_some_iff.1 hx).1
      have := HLn.out
      rw [Nat.zero_add, h2.cellAt i (by omega)]
      exact h3 i x (by omega) hx

/-- Bytes against the string of the same bytes. -/
theorem sameText (p : Option Addr) (n c : Nat) (s : ByteArray) (w : World) (hn : s.size = n) (hp : BAt w p s.data.toList) (hb : n ≤ 1048576) :
    Calls Tryd.prog 12 #[.slice p n c, .string s] w fun e w' => e = .returned (.bool true) ∧ Below w.heap.size w w' := by
  have HP : Hid (BAt w p s.data.toList) := hp
  subst hn
  clear hp
  go_enter Tryd.func12, Tryd.ntmps12
  go_wp2
  go_loopg [5] s.size (fun g i wr => ∃ (k : Nat), k ≤ s.size ∧ s.size ≤ k + g ∧ i = .int .i64 k ∧ Hid (Below w.heap.size w wr))
  case atStart => exact ⟨0, Nat.zero_le _, by omega, rfl, Below.refl _ _⟩
  case round =>
    obtain ⟨k, hk, hg, rfl, HR⟩ := hrel
    by_cases hlt : k < s.size
    · have hx := Lib.data_getElem? s k hlt
      obtain ⟨b, o, hpa, hc⟩ := HP.out.at (fun e => by rw [e] at hx; simp at hx)
      subst hpa
      have c1 : wr.cell? ⟨b, o + k, none⟩ = some (.int .u8 ((s[k]'hlt).toNat : Int)) := (HR.out.cell (p := ⟨b, o + k, none⟩) (World.block_lt_of_cell? _ _ (hc k _ hx))).trans (hc k _ hx)
      clear hc hx
      go_wp2_with fail
      go_quiet (fail)
      go_wp2
      go_roundg (gk - 1)
      case measure => omega
      case rel => exact ⟨k + 1, by omega, by omega, by go_num, below_drewN HR.out _⟩
    · go_wp2
      go_ret
      exact ⟨rfl, HR.out⟩
end Go.Proofs.Qxb6002908aDoor
