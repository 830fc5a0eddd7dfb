/-
  FnLineSplitsJoinedLines where the input is none of those that the law speaks of: it answers true.
-/
import Derived.Test.Qxb6002908aDoorStr
import Derived.Test.Qxb6002908aDoorStream
namespace Go.Proofs.Qxb6002908aDoor
open Go.RowKit Go.Shelf

/-- The sizes of the first k strings, sixteen more for each. -/
def sz (ss : List ByteArray) : Nat → Nat
  | 0 => 0
  | k + 1 => sz ss k + ((byt ss k).length + 16)

theorem sz_le (ss : List ByteArray) {i k : Nat} (h : i ≤ k) : sz ss i ≤ sz ss k := by
  obtain ⟨d, rfl⟩ : ∃ d, k = i + d := ⟨k - i, by omega⟩
  clear h
  induction d with
  | zero => exact Nat.le_refl _
  | succ d ih => exact Nat.le_trans ih (by rw [← Nat.add_assoc, sz]; omega)

structure Good (n m : Nat) (ps es : List ByteArray) : Prop where
  hn : n ≤ 65536
  hm : m = n
  hsz : sz ps n + sz es n ≤ 1048576
  v : VIx ps es n

theorem eq_bytes (s : ByteArray) (l : List UInt8) : (s.toList == l) = (s.data.toList == l) := by rw [Lib.toList_data]

/-- What the third loop has seen of the first k lines. -/
def Seen (ps es : List ByteArray) (n k : Nat) : Prop := ∀ i, i < k → (byt es i = [10] ∨ byt es i = [13, 10] ∨ byt es i = [13]) ∧ Lib.NoAny (byt ps i) [13, 10] (byt ps i).length ∧ (i + 1 < n → byt es i = [13] → byt ps (i + 1) ≠ [])

theorem seen_succ {ps es : List ByteArray} {n k : Nat} (h : Seen ps es n k) (h1 : byt es k = [10] ∨ byt es k = [13, 10] ∨ byt es k = [13]) (h2 : Lib.NoAny (byt ps k) [13, 10] (byt ps k).length) (h3 : k + 1 < n → byt es k = [13] → byt ps (k + 1) ≠ []) : Seen ps es n (k + 1) := fun i hi => by
  by_cases e : i = k
  · subst e; exact ⟨h1, h2, h3⟩
  · exact h i (by omega)
theorem ne_of_beq {s : ByteArray} {l : List UInt8} (h : (s.toList == l) = false) : s.data.toList ≠ l := by
  rw [eq_bytes] at h
  exact beq_eq_false_iff_ne.1 h
theorem seen_v {ps es : List ByteArray} {n : Nat} (h : Seen ps es n n) : VIx ps es n := ⟨fun i hi => (h i hi).1, fun i hi => (h i hi).2.1, fun i hi e => (h i (by omega)).2.2 hi e⟩
theorem ok_of {ss : List ByteArray} {k : Nat} {se : ByteArray} (h : byt ss k = se.data.toList) (hany : ¬ ((se.toList == [10]) = false ∧ (se.toList == [13, 10]) = false ∧ (se.toList == [13]) = false)) : byt ss k = [10] ∨ byt ss k = [13, 10] ∨ byt ss k = [13] := by
  rw [h]
  rw [eq_bytes, eq_bytes, eq_bytes] at hany
  simp only [beq_eq_false_iff_ne] at hany
  by_cases h1 : se.data.toList = [10]
  · exact .inl h1
  by_cases h2 : se.data.toList = [13, 10]
  · exact .inr (.inl h2)
  · exact .inr (.inr (Classical.byContradiction fun h3 => hany ⟨h1, h2, h3⟩))
theorem which_of {se : ByteArray} (hany : ¬ ((se.toList == [10]) = false ∧ (se.toList == [13, 10]) = false ∧ (se.toList == [13]) = false)) :
    ((se.toList == [10]) = true ∧ (se.toList == [13]) = false) ∨ ((se.toList == [10]) = false ∧ (se.toList == [13, 10]) = true ∧ (se.toList == [13]) = false) ∨ ((se.toList == [10]) = false ∧ (se.toList == [13, 10]) = false ∧ (se.toList == [13]) = true) := by
  cases h1 : (se.toList == [10])
  · cases h2 : (se.toList == [13, 10])
    · cases h3 : (se.toList == [13])
      · exact absurd ⟨h1, h2, h3⟩ hany
      · exact .inr (.inr ⟨rfl, rfl, rfl⟩)
    · refine .inr (.inl ⟨rfl, rfl, ?_⟩)
      rw [beq_iff_eq.1 h2]; rfl
  · refine .inl ⟨rfl, ?_⟩
    rw [beq_iff_eq.1 h1]; rfl

set_option maxHeartbeats 1000000 in
set_option maxRecDepth 100000 in
theorem split_bad (p q : Option Addr) (n m c d : Nat) (ps es : List ByteArray) (w : World) (hp : StrIn w p n ps) (he : StrIn w q m es) (hbad : ¬ Good n m ps es) :
    Calls Tryd.prog 4 #[.slice p n c, .slice q m d] w fun e w' => e = .returned (.bool true) ∧ Below w.heap.size w w' := by
  have hb10 := bytes10 p q n m c d ps es w hp he
  have hn := hp.big
  have hm := he.big
  have HP : Hid (StrIn w p n ps) := hp
  have HE : Hid (StrIn w q m es) := he
  have HG : Hid (¬ Good n m ps es) := hbad
  clear hp he hbad
  go_enter Tryd.func4, Tryd.ntmps4
  go_wp2_with fail
  refine hb10.mono ?_
  rintro e w0 ⟨⟨v, rfl⟩, rfl⟩
  clear hb10
  cases v with
  | false =>
    go_wp2
    go_ret
    exact ⟨rfl, Below.refl _ _⟩
  | true =>
    by_cases h1 : 65536 < n
    · go_wp2
      go_ret
      exact ⟨rfl, Below.refl _ _⟩
    by_cases h2 : 65536 < m
    · go_wp2
      go_ret
      exact ⟨rfl, Below.refl _ _⟩
    go_wp2_with fail
    go_loopg [5, 6] n (fun g t i wx => ∃ k u : Nat, k ≤ n ∧ n ≤ k + g ∧ i = .int .i64 k ∧ t = .int .i64 u ∧ u ≤ 1048576 ∧ wx = w0 ∧ Hid (u = sz ps k))
    case atStart => exact ⟨0, 0, by omega, by omega, rfl, rfl, by omega, rfl, rfl⟩
    case round =>
      obtain ⟨k, u, hk, hg, rfl, rfl, hu, rfl, HU⟩ := hrel
      by_cases hlt : k < n
      · obtain ⟨b, o, s, hpa, hs, hc⟩ := HP.out.at'.at (k := k) (by rw [HP.out.len]; exact hlt)
        subst hpa
        have hss := HP.out.small k s hs
        have HS : Hid (sz ps (k + 1) = sz ps k + (s.size + 16)) := by
          show sz ps k + ((byt ps k).length + 16) = _
          rw [byt_at hs, Lib.size_eq]
        clear hs
        by_cases h3 : 1048576 < s.size
        · go_wp2
          go_ret
          exact ⟨rfl, Below.refl _ _⟩
        by_cases h4 : (1048576 : Int) < (u : Int) + ((s.size : Int) + 16)
        · go_wp2
          go_ret
          exact ⟨rfl, Below.refl _ _⟩
        · go_wp2
          go_roundg (gk - 1)
          case measure => omega
          case rel => exact ⟨k + 1, u + (s.size + 16), by omega, by omega, by go_num, by go_num, by omega, rfl, show _ = _ by rw [HS.out, HU.out]⟩
      · -- the ends
        have hkn : k = n := by omega
        have HU2 : Hid (u = sz ps n) := by rw [hkn] at HU; exact HU
        clear HU hkn
        go_wp2_with fail
        go_loopg [5, 7] m (fun g t i wx => ∃ k2 u2 : Nat, k2 ≤ m ∧ m ≤ k2 + g ∧ i = .int .i64 k2 ∧ t = .int .i64 u2 ∧ u2 ≤ 1048576 ∧ wx = wr ∧ Hid (u2 = sz ps n + sz es k2))
        case atStart => exact ⟨0, u, by omega, by omega, rfl, rfl, by omega, rfl, show _ = _ by rw [HU2.out]; rfl⟩
        case round =>
          obtain ⟨k2, u2, hk2, hg2, rfl, rfl, hu2, rfl, HV⟩ := hrel
          by_cases hlt2 : k2 < m
          · obtain ⟨b, o, s, hpa, hs, hc⟩ := HE.out.at'.at (k := k2) (by rw [HE.out.len]; exact hlt2)
            subst hpa
            have hss := HE.out.small k2 s hs
            have HS : Hid (sz es (k2 + 1) = sz es k2 + (s.size + 16)) := by
              show sz es k2 + ((byt es k2).length + 16) = _
              rw [byt_at hs, Lib.size_eq]
            clear hs
            by_cases h3 : 1048576 < s.size
            · go_wp2
              go_ret
              exact ⟨rfl, Below.refl _ _⟩
            by_cases h4 : (1048576 : Int) < (u2 : Int) + ((s.size : Int) + 16)
            · go_wp2
              go_ret
              exact ⟨rfl, Below.refl _ _⟩
            · go_wp2
              go_roundg (gk - 1)
              case measure => omega
              case rel => exact ⟨k2 + 1, u2 + (s.size + 16), by omega, by omega, by go_num, by go_num, by omega, rfl, show _ = _ by rw [HS.out, HV.out, Nat.add_assoc]⟩
          · have hkm : k2 = m := by omega
            have HV2 : Hid (u2 = sz ps n + sz es m) := by rw [hkm] at HV; exact HV
            clear HV hkm
            by_cases hmn : m = n
            · have HMN : Hid (m = n) := hmn
              have hmn1 : m ≤ n := by omega
              have hmn2 : n ≤ m := by omega
              have hnn : ((m : Int) != (n : Int)) = false := by rw [bne_eq_false_iff_eq]; omega
              clear hmn
              go_wp2_with fail
              go_loopg [9] n (fun g i wx => ∃ k3 : Nat, k3 ≤ n ∧ n ≤ k3 + g ∧ i = .int .i64 k3 ∧ wx = wr ∧ Hid (Seen ps es n k3))
              case atStart => exact ⟨0, by omega, by omega, rfl, rfl, fun i hi => absurd hi (Nat.not_lt_zero _)⟩
              case round =>
                obtain ⟨k3, hk3, hg3, rfl, rfl, HC⟩ := hrel
                obtain ⟨G3, rfl⟩ : ∃ G, G = gk := ⟨gk, rfl⟩
                by_cases hlt3 : k3 < n
                · obtain ⟨bp, op, sp, hpa, hsp, hcp⟩ := HP.out.at'.at (k := k3) (by rw [HP.out.len]; exact hlt3)
                  subst hpa
                  obtain ⟨be, oe, se, hqa, hse, hce⟩ := HE.out.at'.at (k := k3) (by rw [HE.out.len]; omega)
                  subst hqa
                  have hlm3 : k3 < m := by omega
                  have hsps := HP.out.small k3 sp hsp
                  have HSP : Hid (byt ps k3 = sp.data.toList) := byt_at hsp
                  have HSE : Hid (byt es k3 = se.data.toList) := byt_at hse
                  clear hsp hse
                  by_cases hany : (se.toList == [10]) = false ∧ (se.toList == [13, 10]) = false ∧ (se.toList == [13]) = false
                  · obtain ⟨e1, e2, e3⟩ := hany
                    go_wp2
                    go_ret
                    exact ⟨rfl, Below.refl _ _⟩
                  have HOK : Hid (byt es k3 = [10] ∨ byt es k3 = [13, 10] ∨ byt es k3 = [13]) := ok_of HSE.out hany
                  have hcase := which_of hany
                  clear hany
                  rcases hcase with ⟨e1, e3⟩ | ⟨e1, e2, e3⟩ | ⟨e1, e2, e3⟩
                  · go_wp2_with fail
                    go_loopg [11] sp.size (fun g i wx => ∃ j : Nat, j ≤ sp.size ∧ sp.size ≤ j + g ∧ i = .int .i64 j ∧ wx = wr ∧ Hid (Lib.NoAny sp.data.toList [13, 10] j))
                    case atStart => exact ⟨0, by omega, by omega, rfl, rfl, Lib.NoAny.zero _ _⟩
                    case round =>
                      obtain ⟨j, hj, hgj, rfl, rfl, HJ⟩ := hrel
                      by_cases hltj : j < sp.size
                      · obtain ⟨x, hx⟩ : ∃ x : UInt8, sp[j]'hltj = x := ⟨_, rfl⟩
                        have HX : Hid (sp.data.toList[j]? = some x) := by show _ = _; rw [← hx]; exact Lib.data_getElem? sp j hltj
                        cases hl : lend x
                        · have HLx : Hid ([13, 10].contains x = false) := hl
                          go_wp2_with (go_at_call 6; refine (isEnd_any x _).mono ?_; rintro e w' ⟨rfl, rfl⟩)
                          go_roundg (gk - 1)
                          case measure => omega
                          case rel => exact ⟨j + 1, by omega, by omega, by go_num, rfl, HJ.out.succ HX.out HLx.out⟩
                        · go_wp2_with (go_at_call 6; refine (isEnd_any x _).mono ?_; rintro e w' ⟨rfl, rfl⟩)
                          go_ret
                          exact ⟨rfl, Below.refl _ _⟩
                      · have HNO : Hid (Lib.NoAny (byt ps k3) [13, 10] (byt ps k3).length) := by
                          show Lib.NoAny _ _ _
                          rw [HSP.out, ← Lib.size_eq]
                          have hjs : j = sp.size := by omega
                          rw [← hjs]; exact HJ.out
                        clear HJ
                        have HNX : Hid (Seen ps es n (k3 + 1)) := seen_succ HC.out HOK.out HNO.out (fun _ h => absurd h (by rw [HSE.out]; exact ne_of_beq e3))
                        go_wp2
                        go_roundg (G3 - 1)
                        case measure => omega
                        case rel => exact ⟨k3 + 1, by omega, by omega, by go_num, rfl, HNX⟩
                  · go_wp2_with fail
                    go_loopg [11] sp.size (fun g i wx => ∃ j : Nat, j ≤ sp.size ∧ sp.size ≤ j + g ∧ i = .int .i64 j ∧ wx = wr ∧ Hid (Lib.NoAny sp.data.toList [13, 10] j))
                    case atStart => exact ⟨0, by omega, by omega, rfl, rfl, Lib.NoAny.zero _ _⟩
                    case round =>
                      obtain ⟨j, hj, hgj, rfl, rfl, HJ⟩ := hrel
                      by_cases hltj : j < sp.size
                      · obtain ⟨x, hx⟩ : ∃ x : UInt8, sp[j]'hltj = x := ⟨_, rfl⟩
                        have HX : Hid (sp.data.toList[j]? = some x) := by show _ = _; rw [← hx]; exact Lib.data_getElem? sp j hltj
                        cases hl : lend x
                        · have HLx : Hid ([13, 10].contains x = false) := hl
                          go_wp2_with (go_at_call 6; refine (isEnd_any x _).mono ?_; rintro e w' ⟨rfl, rfl⟩)
                          go_roundg (gk - 1)
                          case measure => omega
                          case rel => exact ⟨j + 1, by omega, by omega, by go_num, rfl, HJ.out.succ HX.out HLx.out⟩
                        · go_wp2_with (go_at_call 6; refine (isEnd_any x _).mono ?_; rintro e w' ⟨rfl, rfl⟩)
                          go_ret
                          exact ⟨rfl, Below.refl _ _⟩
                      · have HNO : Hid (Lib.NoAny (byt ps k3) [13, 10] (byt ps k3).length) := by
                          show Lib.NoAny _ _ _
                          rw [HSP.out, ← Lib.size_eq]
                          have hjs : j = sp.size := by omega
                          rw [← hjs]; exact HJ.out
                        clear HJ
                        have HNX : Hid (Seen ps es n (k3 + 1)) := seen_succ HC.out HOK.out HNO.out (fun _ h => absurd h (by rw [HSE.out]; exact ne_of_beq e3))
                        go_wp2
                        go_roundg (G3 - 1)
                        case measure => omega
                        case rel => exact ⟨k3 + 1, by omega, by omega, by go_num, rfl, HNX⟩
                  · go_wp2_with fail
                    go_loopg [11] sp.size (fun g i wx => ∃ j : Nat, j ≤ sp.size ∧ sp.size ≤ j + g ∧ i = .int .i64 j ∧ wx = wr ∧ Hid (Lib.NoAny sp.data.toList [13, 10] j))
                    case atStart => exact ⟨0, by omega, by omega, rfl, rfl, Lib.NoAny.zero _ _⟩
                    case round =>
                      obtain ⟨j, hj, hgj, rfl, rfl, HJ⟩ := hrel
                      by_cases hltj : j < sp.size
                      · obtain ⟨x, hx⟩ : ∃ x : UInt8, sp[j]'hltj = x := ⟨_, rfl⟩
                        have HX : Hid (sp.data.toList[j]? = some x) := by show _ = _; rw [← hx]; exact Lib.data_getElem? sp j hltj
                        cases hl : lend x
                        · have HLx : Hid ([13, 10].contains x = false) := hl
                          go_wp2_with (go_at_call 6; refine (isEnd_any x _).mono ?_; rintro e w' ⟨rfl, rfl⟩)
                          go_roundg (gk - 1)
                          case measure => omega
                          case rel => exact ⟨j + 1, by omega, by omega, by go_num, rfl, HJ.out.succ HX.out HLx.out⟩
                        · go_wp2_with (go_at_call 6; refine (isEnd_any x _).mono ?_; rintro e w' ⟨rfl, rfl⟩)
                          go_ret
                          exact ⟨rfl, Below.refl _ _⟩
                      · have HNO : Hid (Lib.NoAny (byt ps k3) [13, 10] (byt ps k3).length) := by
                          show Lib.NoAny _ _ _
                          rw [HSP.out, ← Lib.size_eq]
                          have hjs : j = sp.size := by omega
                          rw [← hjs]; exact HJ.out
                        clear HJ
                        by_cases hk4 : k3 + 1 < n
                        · obtain ⟨b', o', sq, hpa, hsq, hcq⟩ := HP.out.at'.at (k := k3 + 1) (by rw [HP.out.len]; exact hk4)
                          simp only [Option.some.injEq, Addr.mk.injEq, and_true] at hpa
                          obtain ⟨rfl, rfl⟩ := hpa
                          have HSQ : Hid (byt ps (k3 + 1) = sq.data.toList) := byt_at hsq
                          clear hsq
                          by_cases hz : sq.size = 0
                          · have hzb : ((sq.size : Int) == 0) = true := by rw [beq_iff_eq]; omega
                            clear hz
                            go_wp2
                            go_ret
                            exact ⟨rfl, Below.refl _ _⟩
                          · have hzb : ((sq.size : Int) == 0) = false := by rw [beq_eq_false_iff_ne]; omega
                            have HNX : Hid (Seen ps es n (k3 + 1)) := seen_succ HC.out HOK.out HNO.out (fun _ _ => by
                              rw [HSQ.out]
                              intro h
                              exact hz (by rw [Lib.size_eq, h]; rfl))
                            clear hz
                            go_wp2
                            go_roundg (G3 - 1)
                            case measure => omega
                            case rel => exact ⟨k3 + 1, by omega, by omega, by go_num, rfl, HNX⟩
                        · have HNX : Hid (Seen ps es n (k3 + 1)) := seen_succ HC.out HOK.out HNO.out (fun h _ => absurd h hk4)
                          go_wp2
                          go_roundg (G3 - 1)
                          case measure => omega
                          case rel => exact ⟨k3 + 1, by omega, by omega, by go_num, rfl, HNX⟩
                · exfalso
                  have hk3n : k3 = n := by omega
                  rw [hk3n] at HC
                  have hv := HV2.out
                  rw [HMN.out] at hv
                  exact HG.out ⟨by omega, HMN.out, by rw [← hv]; exact hu2, seen_v HC.out⟩
            · have hnn : ((m : Int) != (n : Int)) = true := by rw [bne_iff_ne]; omega
              go_wp2
              go_ret
              exact ⟨rfl, Below.refl _ _⟩
end Go.Proofs.Qxb6002908aDoor
