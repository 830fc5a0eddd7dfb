/-
  FnParseTextsReadsBuiltHeader: the walk.
-/
import Derived.Test.Qxb6600273aDoorMainFN
import Derived.Laws.OwnMore
import Derived.Laws.Cover3
namespace Go.Proofs.Qxb6600273aDoor
open Go.Shelf Go.RowKit

set_option maxHeartbeats 8000000 in
set_option maxRecDepth 100000 in
theorem main_TS (p : Option Addr) (n c : Nat) (ps : List ByteArray) (agent date : ByteArray) (code : Int) (wd : Bool) (w : World) (hp : StrIn w p n ps) (hpn : p = none → n = 0 ∧ c = 0) (ha : agent.size ≤ 9223372036854775807) (hd : date.size ≤ 9223372036854775807) (hc1 : -9223372036854775808 ≤ code) (hc2 : code ≤ 9223372036854775807) (hwd : wd = true) (hpp : ∃ a, p = some a) :
    Calls Tryd.prog 3 #[.slice p n c, .string agent, .int .i64 code, .string date, .bool wd] w fun e w' => e = .returned (.bool true) ∧ Below w.heap.size w w' := by
  have hz := bytes_any p n c ps agent date code wd w hp ha hd
  have hn := hp.big
  have HP : Hid (StrIn w p n ps) := hp
  have HN : Hid (p = none → n = 0 ∧ c = 0) := hpn
  have HWD : Hid (wd = true) := hwd
  have HPP : Hid (∃ a, p = some a) := hpp
  clear hp hpn hwd hpp
  go_enter Tryd.func3, Tryd.ntmps3
  go_wp2_with fail
  refine hz.mono ?_
  rintro e w ⟨v, rfl, hv, rfl⟩
  clear hz
  cases v
  · clear hv
    go_wp2
    go_ret
    exact ⟨rfl, Below.refl _ _⟩
  have HS : Hid (∀ (i : Nat) (s : ByteArray), ps[i]? = some s → s.size ≤ 1048576) := hv rfl
  clear hv
  by_cases h1 : 65536 < n
  · go_wp2
    go_ret
    exact ⟨rfl, Below.refl _ _⟩
  by_cases h2 : 1048576 < agent.size
  · go_wp2
    go_ret
    exact ⟨rfl, Below.refl _ _⟩
  by_cases h3 : 1048576 < date.size
  · go_wp2
    go_ret
    exact ⟨rfl, Below.refl _ _⟩
  go_wp2_with fail
  go_loopg [11, 12] n (fun g t i wx => ∃ k u : Nat, k ≤ n ∧ n ≤ k + g ∧ i = .int .i64 k ∧ t = .int .i64 u ∧ u ≤ 4194304 ∧ wx = w)
  case atStart => exact ⟨0, 16 * n + agent.size + date.size, by omega, by omega, rfl, by go_num, by omega, rfl⟩
  case round =>
    obtain ⟨k, u, hk, hg, rfl, rfl, hu, rfl⟩ := hrel
    by_cases hlt : k < n
    · obtain ⟨b, o, s, hpa, hs, hc⟩ := HP.out.at'.at (k := k) (by rw [HP.out.len]; exact hlt)
      subst hpa
      have hss := HS.out k s hs
      clear hs
      by_cases h4 : 1048576 < u + s.size
      · go_wp2
        go_ret
        exact ⟨rfl, Below.refl _ _⟩
      · go_wp2
        go_roundg (gk - 1)
        case measure => omega
        case rel => exact ⟨k + 1, u + s.size, by omega, by omega, by go_num, by go_num, by omega, rfl⟩
    · by_cases h4 : 1048576 < u
      · go_wp2
        go_ret
        exact ⟨rfl, Below.refl _ _⟩
      cases wd
      · exact absurd HWD.out (by decide)
      · by_cases hm : wrap64 (wrap64 ((n : Int) * (26 + (agent.size : Int) + (3 + 2 * (date.size : Int)))) + 2 * (u : Int)) ≤ 4194304
        rotate_left
        · go_wp2
          go_ret
          exact ⟨rfl, Below.refl _ _⟩
        cases hE : agent.toList.isEmpty
        rotate_left
        · go_wp2
          go_ret
          exact ⟨rfl, Below.refl _ _⟩
        go_wp2_with fail
        go_loopg [14] agent.size (fun g i wx => ∃ k : Nat, k ≤ agent.size ∧ agent.size ≤ k + g ∧ i = .int .i64 k ∧ Hid (∀ b ∈ agent.data.toList.take k, b ≠ 32) ∧ wx = wr)
        case atStart => exact ⟨0, by omega, by omega, rfl, fun b hb => by simp at hb, rfl⟩
        case round =>
          obtain ⟨k2, hk2, hg2, rfl, H32, rfl⟩ := hrel
          by_cases hlt2 : k2 < agent.size
          · cases h32 : ((agent[k2].toNat : Int) == 32)
            · have H33 : Hid (∀ b ∈ agent.data.toList.take (k2 + 1), b ≠ 32) := no32_take hlt2 H32.out h32
              clear H32
              go_wp2
              go_roundg (gk - 1)
              case measure => omega
              case rel => exact ⟨k2 + 1, by omega, by omega, by go_num, H33, rfl⟩
            · go_wp2
              go_ret
              exact ⟨rfl, Below.refl _ _⟩
          · have H33 : Hid (∀ b ∈ agent.data.toList, b ≠ 32) := by
              have e : agent.data.toList.take k2 = agent.data.toList := List.take_of_length_le (by have e0 : agent.data.toList.length = agent.size := (by simp); omega)
              have := H32.out
              rw [e] at this
              exact this
            have hag0 : agent.size ≠ 0 := by
              intro h0
              rw [ByteArray.toList_eq, List.eq_nil_of_length_eq_zero (l := agent.data.toList) (by simpa using h0)] at hE
              cases hE
            have HN2 : Hid (ps.length = n) := HP.out.len
            clear H32
            have hq := neqNil
            cases p with
            | none =>
              have hn0 : n = 0 := (HN.out rfl).1
              have HA : Hid (SAt wr none ps) := fun hne => absurd (List.eq_nil_of_length_eq_zero (by rw [HN2.out, hn0])) hne
              have HBW : Hid (Below wr.heap.size wr wr) := Below.refl _ _
              have Hn0 : Hid (n = 0) := hn0
              clear hn0 HN HP
              exact absurd HPP.out (by simp)
            | some a =>
              have hai : (9223372036854775807 : Nat) = 9223372036854775807 := rfl
              clear hai
              obtain ⟨W0, rfl⟩ : ∃ W0, W0 = wr := ⟨wr, rfl⟩
              obtain ⟨i9, hi9, hy0, hy1, hy2⟩ := info_parts info9
              have HPA : Hid (SAt W0 (some a) ps) := HP.out.at'
              go_wp2_with (at_make; refine wpList_make_full _ rfl _ _ 22 rfl W0.heap.size 9 i9 (.string ⟨#[]⟩) 1 Tryd.underlying22 hi9 hy0 hy1 _ _ _ _ n rfl rfl (by omega) (by omega) (by rw [hy2]; omega) (by unfold maxLen; omega) (Nat.le_refl _) ?_; intro w1 hown hgrow)
              have HOc : Hid (∃ xs : List Value, xs.length = n ∧ w1.ownsRow W0.heap.size 9 1 (.slice (some ⟨W0.heap.size, 0, none⟩) n n) n xs) := ⟨_, by have := hown.1; omega, hown⟩
              have HW1 : Hid (Below W0.heap.size W0 w1) := (Below.refl _ _).grown hgrow (Nat.le_refl _) (fun k h => by cases h)
              clear hown hgrow hq hi9 hy0 hy1 hy2
              go_loopg [16] n (fun g i wx => ∃ (k : Nat) (xs : List Value), k ≤ n ∧ n ≤ k + g ∧ i = .int .i64 k ∧ Hid (xs.length = n ∧ wx.ownsRow W0.heap.size 9 1 (.slice (some ⟨W0.heap.size, 0, none⟩) n n) n xs ∧ (∀ j x, j < k → ps[j]? = some x → xs[j]? = some (.string x)) ∧ Below W0.heap.size W0 wx))
              case atStart =>
                obtain ⟨xs, h1, h2⟩ := HOc.out
                exact ⟨0, xs, Nat.zero_le _, by omega, rfl, h1, h2, fun j x hj => absurd hj (Nat.not_lt_zero _), HW1.out⟩
              case round =>
                obtain ⟨kc, xs, hkc, hgc, rfl, HR⟩ := hrel
                by_cases hltc : kc < n
                · obtain ⟨h1', h2', h3', h4'⟩ := HR.out
                  obtain ⟨b, o, x, ha', hx', hck⟩ := HPA.out.at (k := kc) (by rw [HN2.out]; exact hltc)
                  cases ha'
                  have hcr : wr.cell? ⟨b, o + kc, none⟩ = some (.string x) := (h4'.cell (p := ⟨b, o + kc, none⟩) (World.block_lt_of_cell? _ _ hck)).trans hck
                  have hfr : wr.frozen? ⟨W0.heap.size, kc, none⟩ = false := h2'.frozenAt kc
                  have hcell : ∃ v, wr.cell? ⟨W0.heap.size, kc, none⟩ = some v := by
                    rw [h2'.cellAt kc (by omega)]
                    exact ⟨_, List.getElem?_eq_getElem (by omega)⟩
                  obtain ⟨v0, hv0⟩ := hcell
                  obtain ⟨st1, st2⟩ := h2'.stored kc (.string x)
                  have HNc : Hid ((xs.set kc (.string x)).length = n ∧ (wr.setCell ⟨W0.heap.size, kc, none⟩ (.string x)).ownsRow W0.heap.size 9 1 (.slice (some ⟨W0.heap.size, 0, none⟩) n n) n (xs.set kc (.string x)) ∧ (∀ j y, j < kc + 1 → ps[j]? = some y → (xs.set kc (.string x))[j]? = some (.string y)) ∧ Below W0.heap.size W0 (wr.setCell ⟨W0.heap.size, kc, none⟩ (.string x))) := by
                    refine ⟨by simpa using h1', st1, fun j y hj hy => ?_, h4'.setCell (Nat.le_refl _) _⟩
                    by_cases hjk : j = kc
                    · subst hjk
                      rw [hx'] at hy
                      cases hy
                      rw [List.getElem?_set_self (by omega)]
                    · rw [List.getElem?_set_ne (by omega)]
                      exact h3' j y (by omega) hy
                  clear h1' h2' h3' h4' hck hx' HR st1 st2
                  go_wp2
                  go_roundg (gk - 1)
                  case measure => omega
                  case rel => exact ⟨kc + 1, _, by omega, by omega, by go_num, HNc⟩
                · have HA : Hid (SAt wr (some ⟨W0.heap.size, 0, none⟩) ps) := by
                    obtain ⟨h1', h2', h3', _⟩ := HR.out
                    intro _
                    refine ⟨_, _, rfl, fun i s hs => ?_⟩
                    have hi' := (List.getElem?_eq_some_iff.1 hs).1
                    rw [HN2.out] at hi'
                    rw [Nat.zero_add, h2'.cellAt i (by omega)]
                    exact h3' i s (by omega) hs
                  have HBW : Hid (Below W0.heap.size W0 wr) := HR.out.2.2.2
                  clear HR HOc HW1 HPA HN HP
                  by_cases hcg : 0 ≤ code ∧ code ≤ 999
                  · obtain ⟨hcg1, hcg2⟩ := hcg
                    obtain ⟨c0, rfl⟩ : ∃ c0 : Nat, code = (c0 : Int) := ⟨code.toNat, by omega⟩
                    have hcc := fun w' => code_good c0 w' (by omega)
                    go_wp2_with fail
                    refine (hcc _).mono ?_
                    rintro e w3 ⟨v18, cs, rfl, hrow, hgc⟩
                    have hcs21 : cs.size ≤ 21 := by rw [hgc.three]; decide
                    have HG := hgc
                    have HPar : Hid (Par cs agent) := hgc.par hag0 H33.out
                    have HA3 : Hid (SAt w3 (some ⟨W0.heap.size, 0, none⟩) ps) := HA.out.below hrow.2
                    have HB3 : Hid (Below W0.heap.size W0 w3) := HBW.out.trans (hrow.2.mono HBW.out.size)
                    obtain ⟨⟨b3, o3, cap3, hv18, hcl3⟩, _⟩ := hrow
                    subst hv18
                    have HC3 : Hid (∀ (j : Nat) (u : UInt8), cs.data.toList[j]? = some u → w3.cell? ⟨b3, o3 + j, none⟩ = some (bv u)) := hcl3
                    have HGC : Hid (GoodCode cs) := HG
                    clear hcc hcl3 HA HBW hgc HG
                    obtain ⟨i0, hi, hz0, hz1, hz2⟩ := info_parts info5
                    go_wp2_with (at_make; refine wpList_make_own _ rfl _ _ 24 rfl w3.heap.size 5 i0 (.int .u8 0) 1 Tryd.underlying24 hi hz0 hz1 _ _ _ 64 rfl rfl rfl (by rw [hz2]; decide) (by unfold maxLen; omega) (Nat.le_refl _) ?_; intro w4 hown hgrow)
                    have HO : Hid (Own w3 w4 w3.heap.size 5 (.slice (some ⟨w3.heap.size, 0, none⟩) 0 64) (([] : List UInt8).map bv)) := by
                      have hb : Below w3.heap.size w3 w4 := (Below.refl _ _).grown hgrow (Nat.le_refl _) (fun k h => by cases h)
                      exact ⟨hown, hb, hb.size⟩
                    clear hown hgrow hi hz0 hz1 hz2
                    go_loopg [19, 20] n (fun g v i wx => ∃ k : Nat, k ≤ n ∧ n ≤ k + g ∧ i = .int .i64 k ∧ Hid (Own w3 wx w3.heap.size 5 v ((hdr cs agent date true (ps.take k)).map bv)))
                    case atStart => exact ⟨0, by omega, by omega, rfl, HO⟩
                    case round =>
                      obtain ⟨k4, hk4, hg4, rfl, HO4⟩ := hrel
                      by_cases hlt4 : k4 < n
                      · obtain ⟨b, o, s, hpa, hs, hc0⟩ := HA3.out.at (k := k4) (by rw [HN2.out]; exact hlt4)
                        cases hpa
                        have hss := HS.out k4 s hs
                        rw [Nat.zero_add] at hc0
                        have hcell : wr.cell? ⟨W0.heap.size, k4, none⟩ = some (.string s) := (HO4.out.below.cell (p := ⟨W0.heap.size, k4, none⟩) (World.block_lt_of_cell? _ _ hc0)).trans hc0
                        have HCE : Hid (∀ w', Below w3.heap.size w3 w' → w'.cell? ⟨W0.heap.size, k4, none⟩ = some (.string s)) := fun w' hb => (hb.cell (p := ⟨W0.heap.size, k4, none⟩) (World.block_lt_of_cell? _ _ hc0)).trans hc0
                        obtain ⟨L, hL⟩ : ∃ L, L = hdr cs agent date true (ps.take k4) := ⟨_, rfl⟩
                        have HLn : Hid (L.length ≤ 8388608 * 65536) := by
                          show _ ≤ _
                          rw [hL]
                          have h4 := hdr_len (wd := true) hcs21 (by omega : agent.size ≤ 1048576) (by omega : date.size ≤ 1048576) (ps.take k4) (fun x hx => by
                            obtain ⟨i, hi⟩ := List.mem_iff_getElem?.1 (List.mem_of_mem_take hx)
                            exact HS.out i x hi)
                          have h5 : (ps.take k4).length ≤ 65536 := by rw [List.length_take]; omega
                          omega
                        rw [← hL] at HO4
                        have HE : Hid (cs.data.size = cs.size ∧ agent.data.size = agent.size) := ⟨rfl, rfl⟩
                        clear hc0
                        by_cases hk0 : k4 = 0
                        · subst hk0
                          have HN : Hid ((L ++ cs.data.toList ++ [32] ++ agent.data.toList ++ [32] ++ quo s) ++ [32] ++ quo date = hdr cs agent date true (ps.take (0 + 1))) := by
                            show _ = _
                            rw [hdr_take0 hs, ← hL]; simp [item, dat]
                          clear hs hL
                          go_wp2_with (first
                            | (at_builtin; refine wpList_push HO4.out cs.data.toList (by have := HLn.out; have e := HE.out; simp; omega) rfl (.tmp 139) (.tmp 140) rfl rfl ⟨b3, o3, none⟩ cs.size cap3 (by simp) rfl (src_of HC3.out HO4.out.below) ?_; intro v6 w6 HO6; clear HO4)
                            | (at_builtin; refine wpList_push (HO6.out.alloc _) [32] (by have := HLn.out; have e := HE.out; simp; omega) rfl (.tmp 142) (.tmp 143) rfl rfl ⟨w6.heap.size, 0, none⟩ 1 1 rfl rfl (new1 w6 32 32 rfl) ?_; intro v7 w7 HO7; clear HO6)
                            | (at_builtin; refine wpList_pushS HO7.out agent (by have := HLn.out; have e := HE.out; simp; omega) rfl (.tmp 145) (.tmp 146) rfl rfl rfl ?_; intro v8 w8 HO8; clear HO7)
                            | (at_builtin; refine wpList_push (HO8.out.alloc _) [32] (by have := HLn.out; have e := HE.out; simp; omega) rfl (.tmp 148) (.tmp 149) rfl rfl ⟨w8.heap.size, 0, none⟩ 1 1 rfl rfl (new1 w8 32 32 rfl) ?_; intro v8x w8x HO8b; clear HO8; have hcell8 : w8x.cell? ⟨W0.heap.size, 0, none⟩ = some (.string s) := HCE.out w8x HO8b.out.below))
                          refine (quoted_any w3 _ w3.heap.size _ _ s HO8b.out (by have := HLn.out; have e := HE.out; simp; omega)).mono ?_
                          rintro e w9 ⟨v9, rfl, hO9⟩
                          obtain ⟨L9, hL9⟩ : ∃ L9, L9 = (L ++ cs.data.toList ++ [32] ++ agent.data.toList ++ [32]) ++ quo s := ⟨_, rfl⟩
                          rw [← hL9] at hO9
                          have HO9 : Hid (Own w3 w9 w3.heap.size 5 v9 (L9.map bv)) := hO9
                          clear hO9 HO8b hcell8
                          have HL9 : Hid (L9 = (L ++ cs.data.toList ++ [32] ++ agent.data.toList ++ [32]) ++ quo s) := hL9
                          clear hL9
                          have HL9n : Hid (L9.length ≤ 8388608 * 65536 + 8388608) := by
                            show _ ≤ _
                            rw [HL9.out]
                            have := HLn.out
                            have e := HE.out
                            have eq := quo_len s
                            simp
                            omega
                          go_wp2_with (at_builtin; refine wpList_push (HO9.out.alloc _) [32] (by have := HL9n.out; simp; omega) rfl (.tmp 158) (.tmp 159) rfl rfl ⟨w9.heap.size, 0, none⟩ 1 1 rfl rfl (new1 w9 32 32 rfl) ?_; intro v10 w10 HO10; clear HO9)
                          refine (quoted_any w3 _ w3.heap.size _ _ date HO10.out (by have := HL9n.out; simp; omega)).mono ?_
                          rintro e w11 ⟨v11, rfl, hO11⟩
                          have HO11 : Hid (Own w3 w11 w3.heap.size 5 v11 ((hdr cs agent date true (ps.take (0 + 1))).map bv)) := by
                            rw [← HN.out, ← HL9.out]; exact hO11
                          clear hO11 HO10
                          go_wp2
                          go_roundg (gk - 1)
                          case measure => omega
                          case rel => exact ⟨0 + 1, by omega, by omega, by go_num, HO11⟩
                        · have hk1 : 0 < k4 := by omega
                          have HN : Hid ((L ++ [44, 32] ++ cs.data.toList ++ [32] ++ agent.data.toList ++ [32] ++ quo s) ++ [32] ++ quo date = hdr cs agent date true (ps.take (k4 + 1))) := by
                            show _ = _
                            rw [hdr_take1 hk1 hs, ← hL]; simp [item, dat]
                          clear hs hL
                          go_wp2_with (first
                            | (at_builtin; refine wpList_push (HO4.out.alloc _) [44, 32] (by have := HLn.out; have e := HE.out; simp; omega) rfl (.tmp 136) (.tmp 137) rfl rfl ⟨wr.heap.size, 0, none⟩ 2 2 rfl rfl (new2 wr 44 32 44 32 rfl rfl) ?_; intro v5 w5 HO5; clear HO4)
                            | (at_builtin; refine wpList_push HO5.out cs.data.toList (by have := HLn.out; have e := HE.out; simp; omega) rfl (.tmp 139) (.tmp 140) rfl rfl ⟨b3, o3, none⟩ cs.size cap3 (by simp) rfl (src_of HC3.out HO5.out.below) ?_; intro v6 w6 HO6; clear HO5)
                            | (at_builtin; refine wpList_push (HO6.out.alloc _) [32] (by have := HLn.out; have e := HE.out; simp; omega) rfl (.tmp 142) (.tmp 143) rfl rfl ⟨w6.heap.size, 0, none⟩ 1 1 rfl rfl (new1 w6 32 32 rfl) ?_; intro v7 w7 HO7; clear HO6)
                            | (at_builtin; refine wpList_pushS HO7.out agent (by have := HLn.out; have e := HE.out; simp; omega) rfl (.tmp 145) (.tmp 146) rfl rfl rfl ?_; intro v8 w8 HO8; clear HO7)
                            | (at_builtin; refine wpList_push (HO8.out.alloc _) [32] (by have := HLn.out; have e := HE.out; simp; omega) rfl (.tmp 148) (.tmp 149) rfl rfl ⟨w8.heap.size, 0, none⟩ 1 1 rfl rfl (new1 w8 32 32 rfl) ?_; intro v8x w8x HO8b; clear HO8; have hcell8 : w8x.cell? ⟨W0.heap.size, k4, none⟩ = some (.string s) := HCE.out w8x HO8b.out.below))
                          refine (quoted_any w3 _ w3.heap.size _ _ s HO8b.out (by have := HLn.out; have e := HE.out; simp; omega)).mono ?_
                          rintro e w9 ⟨v9, rfl, hO9⟩
                          obtain ⟨L9, hL9⟩ : ∃ L9, L9 = (L ++ [44, 32] ++ cs.data.toList ++ [32] ++ agent.data.toList ++ [32]) ++ quo s := ⟨_, rfl⟩
                          rw [← hL9] at hO9
                          have HO9 : Hid (Own w3 w9 w3.heap.size 5 v9 (L9.map bv)) := hO9
                          clear hO9 HO8b hcell8
                          have HL9 : Hid (L9 = (L ++ [44, 32] ++ cs.data.toList ++ [32] ++ agent.data.toList ++ [32]) ++ quo s) := hL9
                          clear hL9
                          have HL9n : Hid (L9.length ≤ 8388608 * 65536 + 8388608) := by
                            show _ ≤ _
                            rw [HL9.out]
                            have := HLn.out
                            have e := HE.out
                            have eq := quo_len s
                            simp
                            omega
                          go_wp2_with (at_builtin; refine wpList_push (HO9.out.alloc _) [32] (by have := HL9n.out; simp; omega) rfl (.tmp 158) (.tmp 159) rfl rfl ⟨w9.heap.size, 0, none⟩ 1 1 rfl rfl (new1 w9 32 32 rfl) ?_; intro v10 w10 HO10; clear HO9)
                          refine (quoted_any w3 _ w3.heap.size _ _ date HO10.out (by have := HL9n.out; simp; omega)).mono ?_
                          rintro e w11 ⟨v11, rfl, hO11⟩
                          have HO11 : Hid (Own w3 w11 w3.heap.size 5 v11 ((hdr cs agent date true (ps.take (k4 + 1))).map bv)) := by
                            rw [← HN.out, ← HL9.out]; exact hO11
                          clear hO11 HO10
                          go_wp2
                          go_roundg (gk - 1)
                          case measure => omega
                          case rel => exact ⟨k4 + 1, by omega, by omega, by go_num, HO11⟩
                      · have ht : ps.take k4 = ps := List.take_of_length_le (by rw [HN2.out]; omega)
                        rw [ht] at HO4
                        obtain ⟨X, hX⟩ : ∃ X, X = mk (hdr cs agent date true ps) := ⟨_, rfl⟩
                        have hcv := own_conv HO4.out
                        rw [← hX] at hcv
                        have hXs : X.size ≤ 35184372088832 := by
                          rw [hX, mk_size]
                          have h4 := hdr_len (wd := true) hcs21 (by omega : agent.size ≤ 1048576) (by omega : date.size ≤ 1048576) ps (fun x hx => by
                            obtain ⟨i, hi⟩ := List.mem_iff_getElem?.1 hx
                            exact HS.out i x hi)
                          have h5 := HN2.out
                          omega
                        have HAr : Hid (SAt wr (some ⟨W0.heap.size, 0, none⟩) ps) := HA3.out.below HO4.out.below
                        have HBr : Hid (Below W0.heap.size W0 wr) := HB3.out.trans (HO4.out.below.mono HB3.out.size)
                        clear ht HO4 HC3 HA3 HB3
                        by_cases hn0 : n = 0
                        · have hps : ps = [] := List.eq_nil_of_length_eq_zero (by rw [HN2.out, hn0])
                          have hXe : X = mk [] := by rw [hX, hps]; rfl
                          rw [hXe] at hcv
                          clear hX hXe hXs hps
                          have hn0' : ((n : Int) == 0) = true := by rw [beq_iff_eq]; omega
                          go_wp2_with fail
                          refine (parse8_zero _).mono ?_
                          rintro e w9 ⟨p9, c9, rfl, hb9⟩
                          have HB9 : Hid (Below W0.heap.size W0 w9) := HBr.out.trans (hb9.mono HBr.out.size)
                          clear hb9 hcv
                          go_wp2
                          go_ret
                          exact ⟨by simp, HB9.out⟩
                        · have hn0' : ((n : Int) == 0) = false := by rw [beq_eq_false_iff_ne]; omega
                          have hp8 := fun w' => parse8_good (date := date) (wd := true) HPar.out HGC.out ps n X w' hX hXs HN2.out (by omega)
                          clear hX
                          go_wp2_with fail
                          refine (hp8 _).mono ?_
                          rintro e w9 ⟨p9, c9, rfl, hA9, hb9⟩
                          have HA9 : Hid (SAt w9 p9 ps) := hA9
                          have HAt : Hid (SAt w9 (some ⟨W0.heap.size, 0, none⟩) ps) := HAr.out.below hb9
                          have HB9 : Hid (Below W0.heap.size W0 w9) := HBr.out.trans (hb9.mono HBr.out.size)
                          clear hb9 hcv hA9 hp8 HAr HBr
                          go_wp2_with fail
                          go_loopg [23] n (fun g i wx => ∃ k : Nat, k ≤ n ∧ n ≤ k + g ∧ i = .int .i64 k ∧ Hid (Below w9.heap.size w9 wx))
                          case atStart => exact ⟨0, by omega, by omega, rfl, Below.refl _ _⟩
                          case round =>
                            obtain ⟨k5, hk5, hg5, rfl, HB5⟩ := hrel
                            by_cases hlt5 : k5 < n
                            · obtain ⟨b, o, s, hpa, hs, hc0⟩ := HA9.out.at (k := k5) (by rw [HN2.out]; exact hlt5)
                              obtain ⟨b', o', s', hpa', hs', hc0'⟩ := HAt.out.at (k := k5) (by rw [HN2.out]; exact hlt5)
                              rw [hs] at hs'
                              cases hs'
                              subst hpa
                              cases hpa'
                              have hcA : wr.cell? ⟨b, o + k5, none⟩ = some (.string s) := (HB5.out.cell (p := ⟨b, o + k5, none⟩) (World.block_lt_of_cell? _ _ hc0)).trans hc0
                              have hcB : wr.cell? ⟨W0.heap.size, k5, none⟩ = some (.string s) := by
                                rw [Nat.zero_add] at hc0'
                                exact (HB5.out.cell (p := ⟨W0.heap.size, k5, none⟩) (World.block_lt_of_cell? _ _ hc0')).trans hc0'
                              have hi5 : (k5 : Int) < (n : Int) := by omega
                              have HB6 : Hid (∀ q, Below w9.heap.size w9 (wr.drewN q)) := fun q => HB5.out.trans ⟨rfl, rfl, rfl, Nat.le_refl _, fun _ _ => rfl⟩
                              clear hs hc0 hc0' HB5
                              go_wp2_with fail
                              go_quiet (fail)
                              go_wp2
                              go_roundg (gk - 1)
                              case measure => omega
                              case rel => exact ⟨k5 + 1, by omega, by omega, by go_num, HB6.out _⟩
                            · go_wp2
                              go_ret
                              exact ⟨rfl, HB9.out.trans (HB5.out.mono HB9.out.size)⟩
                  · rcases (by omega : code < 0 ∨ 999 < code) with hcb | hcb
                    all_goals (try have hdec : decide (code ≤ 999) = false := decide_eq_false (by omega))
                    all_goals
                      have hcc := fun w' => code_bad code w' hc1 hc2 (by omega)
                      go_wp2_with fail
                      refine (hcc _).mono ?_
                      rintro e w3 ⟨v18, cs, rfl, hrow, hgc⟩
                      have hcs21 : cs.size ≤ 21 := hgc.small
                      have HG := hgc
                      have HPar : Hid (Par cs agent) := hgc.par hag0 H33.out
                      have HA3 : Hid (SAt w3 (some ⟨W0.heap.size, 0, none⟩) ps) := HA.out.below hrow.2
                      have HB3 : Hid (Below W0.heap.size W0 w3) := HBW.out.trans (hrow.2.mono HBW.out.size)
                      obtain ⟨⟨b3, o3, cap3, hv18, hcl3⟩, _⟩ := hrow
                      subst hv18
                      have HC3 : Hid (∀ (j : Nat) (u : UInt8), cs.data.toList[j]? = some u → w3.cell? ⟨b3, o3 + j, none⟩ = some (bv u)) := hcl3
                      have HGC : Hid (BadCode cs) := HG
                      clear hcc hcl3 HA HBW hgc HG
                      obtain ⟨i0, hi, hz0, hz1, hz2⟩ := info_parts info5
                      go_wp2_with (at_make; refine wpList_make_own _ rfl _ _ 24 rfl w3.heap.size 5 i0 (.int .u8 0) 1 Tryd.underlying24 hi hz0 hz1 _ _ _ 64 rfl rfl rfl (by rw [hz2]; decide) (by unfold maxLen; omega) (Nat.le_refl _) ?_; intro w4 hown hgrow)
                      have HO : Hid (Own w3 w4 w3.heap.size 5 (.slice (some ⟨w3.heap.size, 0, none⟩) 0 64) (([] : List UInt8).map bv)) := by
                        have hb : Below w3.heap.size w3 w4 := (Below.refl _ _).grown hgrow (Nat.le_refl _) (fun k h => by cases h)
                        exact ⟨hown, hb, hb.size⟩
                      clear hown hgrow hi hz0 hz1 hz2
                      go_loopg [19, 20] n (fun g v i wx => ∃ k : Nat, k ≤ n ∧ n ≤ k + g ∧ i = .int .i64 k ∧ Hid (Own w3 wx w3.heap.size 5 v ((hdr cs agent date true (ps.take k)).map bv)))
                      case atStart => exact ⟨0, by omega, by omega, rfl, HO⟩
                      case round =>
                        obtain ⟨k4, hk4, hg4, rfl, HO4⟩ := hrel
                        by_cases hlt4 : k4 < n
                        · obtain ⟨b, o, s, hpa, hs, hc0⟩ := HA3.out.at (k := k4) (by rw [HN2.out]; exact hlt4)
                          cases hpa
                          have hss := HS.out k4 s hs
                          rw [Nat.zero_add] at hc0
                          have hcell : wr.cell? ⟨W0.heap.size, k4, none⟩ = some (.string s) := (HO4.out.below.cell (p := ⟨W0.heap.size, k4, none⟩) (World.block_lt_of_cell? _ _ hc0)).trans hc0
                          have HCE : Hid (∀ w', Below w3.heap.size w3 w' → w'.cell? ⟨W0.heap.size, k4, none⟩ = some (.string s)) := fun w' hb => (hb.cell (p := ⟨W0.heap.size, k4, none⟩) (World.block_lt_of_cell? _ _ hc0)).trans hc0
                          obtain ⟨L, hL⟩ : ∃ L, L = hdr cs agent date true (ps.take k4) := ⟨_, rfl⟩
                          have HLn : Hid (L.length ≤ 8388608 * 65536) := by
                            show _ ≤ _
                            rw [hL]
                            have h4 := hdr_len (wd := true) hcs21 (by omega : agent.size ≤ 1048576) (by omega : date.size ≤ 1048576) (ps.take k4) (fun x hx => by
                              obtain ⟨i, hi⟩ := List.mem_iff_getElem?.1 (List.mem_of_mem_take hx)
                              exact HS.out i x hi)
                            have h5 : (ps.take k4).length ≤ 65536 := by rw [List.length_take]; omega
                            omega
                          rw [← hL] at HO4
                          have HE : Hid (cs.data.size = cs.size ∧ agent.data.size = agent.size) := ⟨rfl, rfl⟩
                          clear hc0
                          by_cases hk0 : k4 = 0
                          · subst hk0
                            have HN : Hid ((L ++ cs.data.toList ++ [32] ++ agent.data.toList ++ [32] ++ quo s) ++ [32] ++ quo date = hdr cs agent date true (ps.take (0 + 1))) := by
                              show _ = _
                              rw [hdr_take0 hs, ← hL]; simp [item, dat]
                            clear hs hL
                            go_wp2_with (first
                              | (at_builtin; refine wpList_push HO4.out cs.data.toList (by have := HLn.out; have e := HE.out; simp; omega) rfl (.tmp 139) (.tmp 140) rfl rfl ⟨b3, o3, none⟩ cs.size cap3 (by simp) rfl (src_of HC3.out HO4.out.below) ?_; intro v6 w6 HO6; clear HO4)
                              | (at_builtin; refine wpList_push (HO6.out.alloc _) [32] (by have := HLn.out; have e := HE.out; simp; omega) rfl (.tmp 142) (.tmp 143) rfl rfl ⟨w6.heap.size, 0, none⟩ 1 1 rfl rfl (new1 w6 32 32 rfl) ?_; intro v7 w7 HO7; clear HO6)
                              | (at_builtin; refine wpList_pushS HO7.out agent (by have := HLn.out; have e := HE.out; simp; omega) rfl (.tmp 145) (.tmp 146) rfl rfl rfl ?_; intro v8 w8 HO8; clear HO7)
                              | (at_builtin; refine wpList_push (HO8.out.alloc _) [32] (by have := HLn.out; have e := HE.out; simp; omega) rfl (.tmp 148) (.tmp 149) rfl rfl ⟨w8.heap.size, 0, none⟩ 1 1 rfl rfl (new1 w8 32 32 rfl) ?_; intro v8x w8x HO8b; clear HO8; have hcell8 : w8x.cell? ⟨W0.heap.size, 0, none⟩ = some (.string s) := HCE.out w8x HO8b.out.below))
                            refine (quoted_any w3 _ w3.heap.size _ _ s HO8b.out (by have := HLn.out; have e := HE.out; simp; omega)).mono ?_
                            rintro e w9 ⟨v9, rfl, hO9⟩
                            obtain ⟨L9, hL9⟩ : ∃ L9, L9 = (L ++ cs.data.toList ++ [32] ++ agent.data.toList ++ [32]) ++ quo s := ⟨_, rfl⟩
                            rw [← hL9] at hO9
                            have HO9 : Hid (Own w3 w9 w3.heap.size 5 v9 (L9.map bv)) := hO9
                            clear hO9 HO8b hcell8
                            have HL9 : Hid (L9 = (L ++ cs.data.toList ++ [32] ++ agent.data.toList ++ [32]) ++ quo s) := hL9
                            clear hL9
                            have HL9n : Hid (L9.length ≤ 8388608 * 65536 + 8388608) := by
                              show _ ≤ _
                              rw [HL9.out]
                              have := HLn.out
                              have e := HE.out
                              have eq := quo_len s
                              simp
                              omega
                            go_wp2_with (at_builtin; refine wpList_push (HO9.out.alloc _) [32] (by have := HL9n.out; simp; omega) rfl (.tmp 158) (.tmp 159) rfl rfl ⟨w9.heap.size, 0, none⟩ 1 1 rfl rfl (new1 w9 32 32 rfl) ?_; intro v10 w10 HO10; clear HO9)
                            refine (quoted_any w3 _ w3.heap.size _ _ date HO10.out (by have := HL9n.out; simp; omega)).mono ?_
                            rintro e w11 ⟨v11, rfl, hO11⟩
                            have HO11 : Hid (Own w3 w11 w3.heap.size 5 v11 ((hdr cs agent date true (ps.take (0 + 1))).map bv)) := by
                              rw [← HN.out, ← HL9.out]; exact hO11
                            clear hO11 HO10
                            go_wp2
                            go_roundg (gk - 1)
                            case measure => omega
                            case rel => exact ⟨0 + 1, by omega, by omega, by go_num, HO11⟩
                          · have hk1 : 0 < k4 := by omega
                            have HN : Hid ((L ++ [44, 32] ++ cs.data.toList ++ [32] ++ agent.data.toList ++ [32] ++ quo s) ++ [32] ++ quo date = hdr cs agent date true (ps.take (k4 + 1))) := by
                              show _ = _
                              rw [hdr_take1 hk1 hs, ← hL]; simp [item, dat]
                            clear hs hL
                            go_wp2_with (first
                              | (at_builtin; refine wpList_push (HO4.out.alloc _) [44, 32] (by have := HLn.out; have e := HE.out; simp; omega) rfl (.tmp 136) (.tmp 137) rfl rfl ⟨wr.heap.size, 0, none⟩ 2 2 rfl rfl (new2 wr 44 32 44 32 rfl rfl) ?_; intro v5 w5 HO5; clear HO4)
                              | (at_builtin; refine wpList_push HO5.out cs.data.toList (by have := HLn.out; have e := HE.out; simp; omega) rfl (.tmp 139) (.tmp 140) rfl rfl ⟨b3, o3, none⟩ cs.size cap3 (by simp) rfl (src_of HC3.out HO5.out.below) ?_; intro v6 w6 HO6; clear HO5)
                              | (at_builtin; refine wpList_push (HO6.out.alloc _) [32] (by have := HLn.out; have e := HE.out; simp; omega) rfl (.tmp 142) (.tmp 143) rfl rfl ⟨w6.heap.size, 0, none⟩ 1 1 rfl rfl (new1 w6 32 32 rfl) ?_; intro v7 w7 HO7; clear HO6)
                              | (at_builtin; refine wpList_pushS HO7.out agent (by have := HLn.out; have e := HE.out; simp; omega) rfl (.tmp 145) (.tmp 146) rfl rfl rfl ?_; intro v8 w8 HO8; clear HO7)
                              | (at_builtin; refine wpList_push (HO8.out.alloc _) [32] (by have := HLn.out; have e := HE.out; simp; omega) rfl (.tmp 148) (.tmp 149) rfl rfl ⟨w8.heap.size, 0, none⟩ 1 1 rfl rfl (new1 w8 32 32 rfl) ?_; intro v8x w8x HO8b; clear HO8; have hcell8 : w8x.cell? ⟨W0.heap.size, k4, none⟩ = some (.string s) := HCE.out w8x HO8b.out.below))
                            refine (quoted_any w3 _ w3.heap.size _ _ s HO8b.out (by have := HLn.out; have e := HE.out; simp; omega)).mono ?_
                            rintro e w9 ⟨v9, rfl, hO9⟩
                            obtain ⟨L9, hL9⟩ : ∃ L9, L9 = (L ++ [44, 32] ++ cs.data.toList ++ [32] ++ agent.data.toList ++ [32]) ++ quo s := ⟨_, rfl⟩
                            rw [← hL9] at hO9
                            have HO9 : Hid (Own w3 w9 w3.heap.size 5 v9 (L9.map bv)) := hO9
                            clear hO9 HO8b hcell8
                            have HL9 : Hid (L9 = (L ++ [44, 32] ++ cs.data.toList ++ [32] ++ agent.data.toList ++ [32]) ++ quo s) := hL9
                            clear hL9
                            have HL9n : Hid (L9.length ≤ 8388608 * 65536 + 8388608) := by
                              show _ ≤ _
                              rw [HL9.out]
                              have := HLn.out
                              have e := HE.out
                              have eq := quo_len s
                              simp
                              omega
                            go_wp2_with (at_builtin; refine wpList_push (HO9.out.alloc _) [32] (by have := HL9n.out; simp; omega) rfl (.tmp 158) (.tmp 159) rfl rfl ⟨w9.heap.size, 0, none⟩ 1 1 rfl rfl (new1 w9 32 32 rfl) ?_; intro v10 w10 HO10; clear HO9)
                            refine (quoted_any w3 _ w3.heap.size _ _ date HO10.out (by have := HL9n.out; simp; omega)).mono ?_
                            rintro e w11 ⟨v11, rfl, hO11⟩
                            have HO11 : Hid (Own w3 w11 w3.heap.size 5 v11 ((hdr cs agent date true (ps.take (k4 + 1))).map bv)) := by
                              rw [← HN.out, ← HL9.out]; exact hO11
                            clear hO11 HO10
                            go_wp2
                            go_roundg (gk - 1)
                            case measure => omega
                            case rel => exact ⟨k4 + 1, by omega, by omega, by go_num, HO11⟩
                        · have ht : ps.take k4 = ps := List.take_of_length_le (by rw [HN2.out]; omega)
                          rw [ht] at HO4
                          obtain ⟨X, hX⟩ : ∃ X, X = mk (hdr cs agent date true ps) := ⟨_, rfl⟩
                          have hcv := own_conv HO4.out
                          rw [← hX] at hcv
                          have hXs : X.size ≤ 35184372088832 := by
                            rw [hX, mk_size]
                            have h4 := hdr_len (wd := true) hcs21 (by omega : agent.size ≤ 1048576) (by omega : date.size ≤ 1048576) ps (fun x hx => by
                              obtain ⟨i, hi⟩ := List.mem_iff_getElem?.1 hx
                              exact HS.out i x hi)
                            have h5 := HN2.out
                            omega
                          have HAr : Hid (SAt wr (some ⟨W0.heap.size, 0, none⟩) ps) := HA3.out.below HO4.out.below
                          have HBr : Hid (Below W0.heap.size W0 wr) := HB3.out.trans (HO4.out.below.mono HB3.out.size)
                          clear ht HO4 HC3 HA3 HB3
                          by_cases hn0 : n = 0
                          · have hps : ps = [] := List.eq_nil_of_length_eq_zero (by rw [HN2.out, hn0])
                            have hXe : X = mk [] := by rw [hX, hps]; rfl
                            rw [hXe] at hcv
                            clear hX hXe hXs hps
                            have hn0' : ((n : Int) == 0) = true := by rw [beq_iff_eq]; omega
                            go_wp2_with fail
                            refine (parse8_zero _).mono ?_
                            rintro e w9 ⟨p9, c9, rfl, hb9⟩
                            have HB9 : Hid (Below W0.heap.size W0 w9) := HBr.out.trans (hb9.mono HBr.out.size)
                            clear hb9 hcv
                            go_wp2
                            go_ret
                            exact ⟨by simp, HB9.out⟩
                          · have hn0' : ((n : Int) == 0) = false := by rw [beq_eq_false_iff_ne]; omega
                            have hne : ps ≠ [] := fun h => hn0 (by rw [← HN2.out, h]; rfl)
                            have hp8 := fun w' => parse8_bad (date := date) (wd := true) HPar.out HGC.out ps X w' hX hXs hne
                            clear hX hne
                            go_wp2_with fail
                            refine (hp8 _).mono ?_
                            rintro e w9 ⟨rfl, hb9⟩
                            have HB9 : Hid (Below W0.heap.size W0 w9) := HBr.out.trans (hb9.mono HBr.out.size)
                            clear hb9 hcv hp8
                            go_wp2
                            go_ret
                            exact ⟨rfl, HB9.out⟩
end Go.Proofs.Qxb6600273aDoor
