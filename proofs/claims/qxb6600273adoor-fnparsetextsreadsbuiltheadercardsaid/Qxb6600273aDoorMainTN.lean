/-
  FnParseTextsReadsBuiltHeader: the walk.
-/
import Derived.Test.Qxb6600273aDoorMainFN
import Derived.Laws.OwnMore
import Derived.Laws.Cover3
namespace Go.Proofs.Qxb6600273aDoor
open Go.Shelf Go.RowKit

set_option maxHeartbeats 8000000 in
set_option maxRecDepth 100000 in
theorem main_TN (p : Option Addr) (n c : Nat) (ps : List ByteArray) (agent date : ByteArray) (code : Int) (wd : Bool) (w : World) (hp : StrIn w p n ps) (hpn : p = none → n = 0 ∧ c = 0) (ha : agent.size ≤ 9223372036854775807) (hd : date.size ≤ 9223372036854775807) (hc1 : -9223372036854775808 ≤ code) (hc2 : code ≤ 9223372036854775807) (hwd : wd = true) (hpp : p = none) :
    Calls Tryd.prog 3 #[.slice p n c, .string agent, .int .i64 code, .string date, .bool wd] w fun e w' => e = .returned (.bool true) ∧ Below w.heap.size w w' := by
  have hz := bytes_any p n c ps agent date code wd w hp ha hd
  have hn := hp.big
  have HP : Hid (StrIn w p n ps) := hp
  have HN : Hid (p = none → n = 0 ∧ c = 0) := hpn
  have HWD : Hid (wd = true) := hwd
  have HPP : Hid (p = none) := hpp
  clear hp hpn hwd hpp
  go_enter Tryd.func3, Tryd.ntmps3
  go_wp2_with fail
  refine hz.mono ?_
  rintro e w ⟨v, rfl, hv, rfl⟩
  clear hz
  cases v
  · clear hv
    go_wp2
    go_ret
    exact ⟨rfl, Below.refl _ _⟩
  have HS : Hid (∀ (i : Nat) (s : ByteArray), ps[i]? = some s → s.size ≤ 1048576) := hv rfl
  clear hv
  by_cases h1 : 65536 < n
  · go_wp2
    go_ret
    exact ⟨rfl, Below.refl _ _⟩
  by_cases h2 : 1048576 < agent.size
  · go_wp2
    go_ret
    exact ⟨rfl, Below.refl _ _⟩
  by_cases h3 : 1048576 < date.size
  · go_wp2
    go_ret
    exact ⟨rfl, Below.refl _ _⟩
  go_wp2_with fail
  go_loopg [11, 12] n (fun g t i wx => ∃ k u : Nat, k ≤ n ∧ n ≤ k + g ∧ i = .int .i64 k ∧ t = .int .i64 u ∧ u ≤ 4194304 ∧ wx = w)
  case atStart => exact ⟨0, 16 * n + agent.size + date.size, by omega, by omega, rfl, by go_num, by omega, rfl⟩
  case round =>
    obtain ⟨k, u, hk, hg, rfl, rfl, hu, rfl⟩ := hrel
    by_cases hlt : k < n
    · obtain ⟨b, o, s, hpa, _, _⟩ := HP.out.at'.at (k := k) (by rw [HP.out.len]; exact hlt)
      exact absurd HPP.out (by rw [hpa]; simp)
    · by_cases h4 : 1048576 < u
      · go_wp2
        go_ret
        exact ⟨rfl, Below.refl _ _⟩
      cases wd
      · exact absurd HWD.out (by decide)
      · by_cases hm : wrap64 (wrap64 ((n : Int) * (26 + (agent.size : Int) + (3 + 2 * (date.size : Int)))) + 2 * (u : Int)) ≤ 4194304
        rotate_left
        · go_wp2
          go_ret
          exact ⟨rfl, Below.refl _ _⟩
        cases hE : agent.toList.isEmpty
        rotate_left
        · go_wp2
          go_ret
          exact ⟨rfl, Below.refl _ _⟩
        go_wp2_with fail
        go_loopg [14] agent.size (fun g i wx => ∃ k : Nat, k ≤ agent.size ∧ agent.size ≤ k + g ∧ i = .int .i64 k ∧ Hid (∀ b ∈ agent.data.toList.take k, b ≠ 32) ∧ wx = wr)
        case atStart => exact ⟨0, by omega, by omega, rfl, fun b hb => by simp at hb, rfl⟩
        case round =>
          obtain ⟨k2, hk2, hg2, rfl, H32, rfl⟩ := hrel
          by_cases hlt2 : k2 < agent.size
          · cases h32 : ((agent[k2].toNat : Int) == 32)
            · have H33 : Hid (∀ b ∈ agent.data.toList.take (k2 + 1), b ≠ 32) := no32_take hlt2 H32.out h32
              clear H32
              go_wp2
              go_roundg (gk - 1)
              case measure => omega
              case rel => exact ⟨k2 + 1, by omega, by omega, by go_num, H33, rfl⟩
            · go_wp2
              go_ret
              exact ⟨rfl, Below.refl _ _⟩
          · have H33 : Hid (∀ b ∈ agent.data.toList, b ≠ 32) := by
              have e : agent.data.toList.take k2 = agent.data.toList := List.take_of_length_le (by have e0 : agent.data.toList.length = agent.size := (by simp); omega)
              have := H32.out
              rw [e] at this
              exact this
            have hag0 : agent.size ≠ 0 := by
              intro h0
              rw [ByteArray.toList_eq, List.eq_nil_of_length_eq_zero (l := agent.data.toList) (by simpa using h0)] at hE
              cases hE
            have HN2 : Hid (ps.length = n) := HP.out.len
            clear H32
            have hq := neqNil
            cases p with
            | none =>
              have hn0 : n = 0 := (HN.out rfl).1
              have HA : Hid (SAt wr none ps) := fun hne => absurd (List.eq_nil_of_length_eq_zero (by rw [HN2.out, hn0])) hne
              have HBW : Hid (Below wr.heap.size wr wr) := Below.refl _ _
              have Hn0 : Hid (n = 0) := hn0
              clear hn0 HN HP
              obtain ⟨W0, rfl⟩ : ∃ W0, W0 = wr := ⟨wr, rfl⟩
              by_cases hcg : 0 ≤ code ∧ code ≤ 999
              · obtain ⟨hcg1, hcg2⟩ := hcg
                obtain ⟨c0, rfl⟩ : ∃ c0 : Nat, code = (c0 : Int) := ⟨code.toNat, by omega⟩
                have hcc := fun w' => code_good c0 w' (by omega)
                go_wp2_with fail
                refine (hcc _).mono ?_
                rintro e w3 ⟨v18, cs, rfl, hrow, hgc⟩
                have hcs21 : cs.size ≤ 21 := by rw [hgc.three]; decide
                have HG := hgc
                have HPar : Hid (Par cs agent) := hgc.par hag0 H33.out
                have HA3 : Hid (SAt w3 none ps) := HA.out.below hrow.2
                have HB3 : Hid (Below W0.heap.size W0 w3) := HBW.out.trans (hrow.2.mono HBW.out.size)
                obtain ⟨⟨b3, o3, cap3, hv18, hcl3⟩, _⟩ := hrow
                subst hv18
                have HC3 : Hid (∀ (j : Nat) (u : UInt8), cs.data.toList[j]? = some u → w3.cell? ⟨b3, o3 + j, none⟩ = some (bv u)) := hcl3
                have HGC : Hid (GoodCode cs) := HG
                clear hcc hcl3 HA HBW hgc HG
                obtain ⟨i0, hi, hz0, hz1, hz2⟩ := info_parts info5
                go_wp2_with (at_make; refine wpList_make_own _ rfl _ _ 24 rfl w3.heap.size 5 i0 (.int .u8 0) 1 Tryd.underlying24 hi hz0 hz1 _ _ _ 64 rfl rfl rfl (by rw [hz2]; decide) (by unfold maxLen; omega) (Nat.le_refl _) ?_; intro w4 hown hgrow)
                have HO : Hid (Own w3 w4 w3.heap.size 5 (.slice (some ⟨w3.heap.size, 0, none⟩) 0 64) (([] : List UInt8).map bv)) := by
                  have hb : Below w3.heap.size w3 w4 := (Below.refl _ _).grown hgrow (Nat.le_refl _) (fun k h => by cases h)
                  exact ⟨hown, hb, hb.size⟩
                clear hown hgrow hi hz0 hz1 hz2
                go_loopg [19, 20] n (fun g v i wx => ∃ k : Nat, k ≤ n ∧ n ≤ k + g ∧ i = .int .i64 k ∧ Hid (Own w3 wx w3.heap.size 5 v ((hdr cs agent date true (ps.take k)).map bv)))
                case atStart => exact ⟨0, by omega, by omega, rfl, HO⟩
                case round =>
                  obtain ⟨k4, hk4, hg4, rfl, HO4⟩ := hrel
                  by_cases hlt4 : k4 < n
                  · exact absurd hlt4 (by have := Hn0.out; omega)
                  · have ht : ps.take k4 = ps := List.take_of_length_le (by rw [HN2.out]; omega)
                    rw [ht] at HO4
                    obtain ⟨X, hX⟩ : ∃ X, X = mk (hdr cs agent date true ps) := ⟨_, rfl⟩
                    have hcv := own_conv HO4.out
                    rw [← hX] at hcv
                    have hXs : X.size ≤ 35184372088832 := by
                      rw [hX, mk_size]
                      have h4 := hdr_len (wd := true) hcs21 (by omega : agent.size ≤ 1048576) (by omega : date.size ≤ 1048576) ps (fun x hx => by
                        obtain ⟨i, hi⟩ := List.mem_iff_getElem?.1 hx
                        exact HS.out i x hi)
                      have h5 := HN2.out
                      omega
                    have HAr : Hid (SAt wr none ps) := HA3.out.below HO4.out.below
                    have HBr : Hid (Below W0.heap.size W0 wr) := HB3.out.trans (HO4.out.below.mono HB3.out.size)
                    clear ht HO4 HC3 HA3 HB3
                    by_cases hn0 : n = 0
                    · have hps : ps = [] := List.eq_nil_of_length_eq_zero (by rw [HN2.out, hn0])
                      have hXe : X = mk [] := by rw [hX, hps]; rfl
                      rw [hXe] at hcv
                      clear hX hXe hXs hps
                      have hn0' : ((n : Int) == 0) = true := by rw [beq_iff_eq]; omega
                      go_wp2_with fail
                      refine (parse8_zero _).mono ?_
                      rintro e w9 ⟨p9, c9, rfl, hb9⟩
                      have HB9 : Hid (Below W0.heap.size W0 w9) := HBr.out.trans (hb9.mono HBr.out.size)
                      clear hb9 hcv
                      go_wp2
                      go_ret
                      exact ⟨by simp, HB9.out⟩
                    · exact absurd Hn0.out hn0
              · rcases (by omega : code < 0 ∨ 999 < code) with hcb | hcb
                all_goals (try have hdec : decide (code ≤ 999) = false := decide_eq_false (by omega))
                all_goals
                  have hcc := fun w' => code_bad code w' hc1 hc2 (by omega)
                  go_wp2_with fail
                  refine (hcc _).mono ?_
                  rintro e w3 ⟨v18, cs, rfl, hrow, hgc⟩
                  have hcs21 : cs.size ≤ 21 := hgc.small
                  have HG := hgc
                  have HPar : Hid (Par cs agent) := hgc.par hag0 H33.out
                  have HA3 : Hid (SAt w3 none ps) := HA.out.below hrow.2
                  have HB3 : Hid (Below W0.heap.size W0 w3) := HBW.out.trans (hrow.2.mono HBW.out.size)
                  obtain ⟨⟨b3, o3, cap3, hv18, hcl3⟩, _⟩ := hrow
                  subst hv18
                  have HC3 : Hid (∀ (j : Nat) (u : UInt8), cs.data.toList[j]? = some u → w3.cell? ⟨b3, o3 + j, none⟩ = some (bv u)) := hcl3
                  have HGC : Hid (BadCode cs) := HG
                  clear hcc hcl3 HA HBW hgc HG
                  obtain ⟨i0, hi, hz0, hz1, hz2⟩ := info_parts info5
                  go_wp2_with (at_make; refine wpList_make_own _ rfl _ _ 24 rfl w3.heap.size 5 i0 (.int .u8 0) 1 Tryd.underlying24 hi hz0 hz1 _ _ _ 64 rfl rfl rfl (by rw [hz2]; decide) (by unfold maxLen; omega) (Nat.le_refl _) ?_; intro w4 hown hgrow)
                  have HO : Hid (Own w3 w4 w3.heap.size 5 (.slice (some ⟨w3.heap.size, 0, none⟩) 0 64) (([] : List UInt8).map bv)) := by
                    have hb : Below w3.heap.size w3 w4 := (Below.refl _ _).grown hgrow (Nat.le_refl _) (fun k h => by cases h)
                    exact ⟨hown, hb, hb.size⟩
                  clear hown hgrow hi hz0 hz1 hz2
                  go_loopg [19, 20] n (fun g v i wx => ∃ k : Nat, k ≤ n ∧ n ≤ k + g ∧ i = .int .i64 k ∧ Hid (Own w3 wx w3.heap.size 5 v ((hdr cs agent date true (ps.take k)).map bv)))
                  case atStart => exact ⟨0, by omega, by omega, rfl, HO⟩
                  case round =>
                    obtain ⟨k4, hk4, hg4, rfl, HO4⟩ := hrel
                    by_cases hlt4 : k4 < n
                    · exact absurd hlt4 (by have := Hn0.out; omega)
                    · have ht : ps.take k4 = ps := List.take_of_length_le (by rw [HN2.out]; omega)
                      rw [ht] at HO4
                      obtain ⟨X, hX⟩ : ∃ X, X = mk (hdr cs agent date true ps) := ⟨_, rfl⟩
                      have hcv := own_conv HO4.out
                      rw [← hX] at hcv
                      have hXs : X.size ≤ 35184372088832 := by
                        rw [hX, mk_size]
                        have h4 := hdr_len (wd := true) hcs21 (by omega : agent.size ≤ 1048576) (by omega : date.size ≤ 1048576) ps (fun x hx => by
                          obtain ⟨i, hi⟩ := List.mem_iff_getElem?.1 hx
                          exact HS.out i x hi)
                        have h5 := HN2.out
                        omega
                      have HAr : Hid (SAt wr none ps) := HA3.out.below HO4.out.below
                      have HBr : Hid (Below W0.heap.size W0 wr) := HB3.out.trans (HO4.out.below.mono HB3.out.size)
                      clear ht HO4 HC3 HA3 HB3
                      by_cases hn0 : n = 0
                      · have hps : ps = [] := List.eq_nil_of_length_eq_zero (by rw [HN2.out, hn0])
                        have hXe : X = mk [] := by rw [hX, hps]; rfl
                        rw [hXe] at hcv
                        clear hX hXe hXs hps
                        have hn0' : ((n : Int) == 0) = true := by rw [beq_iff_eq]; omega
                        go_wp2_with fail
                        refine (parse8_zero _).mono ?_
                        rintro e w9 ⟨p9, c9, rfl, hb9⟩
                        have HB9 : Hid (Below W0.heap.size W0 w9) := HBr.out.trans (hb9.mono HBr.out.size)
                        clear hb9 hcv
                        go_wp2
                        go_ret
                        exact ⟨by simp, HB9.out⟩
                      · exact absurd Hn0.out hn0
            | some a =>
              exact absurd HPP.out (by simp)
end Go.Proofs.Qxb6600273aDoor
