/-
  FnLineSplitsJoinedLines where the input is one of those that the law speaks of.
-/
import Derived.Test.Qxb6002908aDoorBad
import Derived.Lib.AppendStr
namespace Go.Proofs.Qxb6002908aDoor
open Go.RowKit Go.Shelf

/-- The copy of a slice of strings. -/
theorem cloneS_buf {w : World} {p : Option Addr} {n c : Nat} {ss : List ByteArray} (h : StrIn w p n ss) (hp : p = none → n = 0 ∧ c = 0) (hn : n ≤ 65536) :
    ∃ q d, Calls Tryd.prog 11 #[.slice p n c] w fun e w' => e = .returned (.slice q n d) ∧ StrIn w' q n ss ∧ Below w.heap.size w w' := by
  cases p with
  | none =>
    obtain ⟨rfl, rfl⟩ := hp rfl
    refine ⟨none, 0, (cloneS_nil w).mono ?_⟩
    rintro e w' ⟨rfl, rfl⟩
    exact ⟨rfl, h, Below.refl _ _⟩
  | some a =>
    refine ⟨some ⟨w.heap.size, 0, none⟩, n, (cloneS_any a n c ss w h.len h.at' (by omega)).mono ?_⟩
    rintro e w' ⟨rfl, hB, hb⟩
    exact ⟨rfl, ⟨h.len, hB, h.small, h.big⟩, hb⟩

/-- What is gathered, as cells. -/
def bcells (l : List UInt8) : List Value := l.map fun b => Value.int .u8 b.toNat
theorem bcells_app (a b : List UInt8) : bcells (a ++ b) = bcells a ++ bcells b := List.map_append
theorem bcells_str (s : ByteArray) : Lib.strCells s = bcells s.data.toList := rfl

theorem bufIn_of {w : World} {B N : Nat} {v : Value} {l : List UInt8} (hown : w.ownsRow B 5 1 v N (bcells l)) (hN : l.length = N) (hs : N ≤ 1048576) (hL : Libs w) : ∃ p c, v = .slice p N c ∧ BufIn w p N c l := by
  rcases hown.2 with ⟨rfl, h0⟩ | ⟨g, cap, cur, rfl, hB, hg, hnc, hcm, hcs, htk⟩
  · have hl : l = [] := List.length_eq_zero_iff.1 (by omega)
    subst h0 hl
    exact ⟨none, 0, rfl, rfl, Nat.le_refl _, by omega, hs, hL, BAt.nil _ _⟩
  · refine ⟨some ⟨g, 0, none⟩, cap, rfl, hN, hnc, by unfold maxLen at hcm; omega, hs, hL, fun _ => ⟨g, 0, rfl, fun i x hx => ?_⟩⟩
    have hi : i < l.length := (List.getElem?_eq_some_iff.1 hx).1
    rw [Nat.zero_add, hown.cellAt i (by omega), bcells, List.getElem?_map, hx]
    rfl

theorem own_base {w : World} {B : Nat} {v : Value} {n : Nat} {xs : List Value} (h : w.ownsRow B 5 1 v n xs) : ∀ k, v.ownBlock = some k → B ≤ k := fun k hk => by
  rcases h.2 with ⟨rfl, _⟩ | ⟨g, cap, cur, rfl, hB, _⟩
  · simp [Value.ownBlock] at hk
  · simp [Value.ownBlock] at hk
    omega

theorem zz_round0 {w : World} {p : Option Addr} {N c n : Nat} {ps es : List ByteArray} (h : BufIn w p N c (buf ps es n)) (V : VIx ps es n) {i : Nat} (hi : i < n) (fin : Bool) (hfin : i + 1 = n → byt es i = [13] → fin = true) :
    ∃ b o, p = some ⟨b, o, none⟩ ∧ (∀ W, Below w.heap.size w W → BAt W (some ⟨b, o + (buf ps es i).length, none⟩) (byt ps i)) ∧
    Calls Tryd.prog 8 #[.slice p N c, .int .i64 ((buf ps es i).length : Int), .int .i64 0, .bool fin] w fun e w' => e = .returned (.tuple #[.slice (some ⟨b, o + (buf ps es i).length, none⟩) (byt ps i).length (c - (buf ps es i).length), .bool true, .int .i64 ((buf ps es (i + 1)).length : Int), .int .i64 0]) ∧ Below w.heap.size w w' :=
  zz_round h V hi fin hfin
theorem zz_kept0 {w : World} {p : Option Addr} {N c n : Nat} {ps es : List ByteArray} (h : BufIn w p N c (buf ps es n)) (V : VIx ps es n) {i : Nat} (hi : i + 1 = n) (e : byt es i = [13]) :
    Calls Tryd.prog 8 #[.slice p N c, .int .i64 ((buf ps es i).length : Int), .int .i64 0, .bool false] w fun e w' => e = .returned (.tuple #[.slice none 0 0, .bool false, .int .i64 ((buf ps es i).length : Int), .int .i64 ((byt ps i).length : Int)]) ∧ Below w.heap.size w w' :=
  zz_kept h V hi e
theorem zz_done0 {w : World} {p : Option Addr} {N c n : Nat} {ps es : List ByteArray} (h : BufIn w p N c (buf ps es n)) (fin : Bool) :
    Calls Tryd.prog 8 #[.slice p N c, .int .i64 ((buf ps es n).length : Int), .int .i64 0, .bool fin] w fun e w' => e = .returned (.tuple #[.slice none 0 0, .bool false, .int .i64 ((buf ps es n).length : Int), .int .i64 0]) ∧ Below w.heap.size w w' :=
  zz_done h fin

theorem zz_doneK {w : World} {p : Option Addr} {N c n : Nat} {ps es : List ByteArray} (h : BufIn w p N c (buf ps es n)) (fin : Bool) (k : Nat) (hk : k = n) :
    Calls Tryd.prog 8 #[.slice p N c, .int .i64 ((buf ps es k).length : Int), .int .i64 0, .bool fin] w fun e w' => e = .returned (.tuple #[.slice none 0 0, .bool false, .int .i64 ((buf ps es k).length : Int), .int .i64 0]) ∧ Below w.heap.size w w' := by
  subst hk
  exact zz_done0 h fin
theorem neqNil (w : World) (a : Option Addr) (n c : Nat) : (binOp .neq 22 (.slice a n c) (.slice none 0 0)).run Tryd.prog w = .ok (.bool (!a.isNone)) w :=
  run_neq_slice_nil w 22 5 a n c Tryd.underlying22

structure GoodIn (w : World) (p q : Option Addr) (n m c d : Nat) (ps es : List ByteArray) : Prop where
  sp : StrIn w p n ps
  se : StrIn w q m es
  hp : p = none → n = 0 ∧ c = 0
  hq : q = none → m = 0 ∧ d = 0
  good : Good n m ps es
  libs : Libs w

theorem sz_at {ss : List ByteArray} {k : Nat} {s : ByteArray} (hs : ss[k]? = some s) : sz ss (k + 1) = sz ss k + (s.size + 16) := by
  show sz ss k + ((byt ss k).length + 16) = _
  rw [byt_at hs, Lib.size_eq]

theorem len_sz (ps es : List ByteArray) : ∀ k, (buf ps es k).length ≤ sz ps k + sz es k
  | 0 => Nat.le_refl _
  | k + 1 => by
    have := len_sz ps es k
    rw [buf_len, sz, sz]
    omega

theorem which_end {ss : List ByteArray} {k : Nat} {se : ByteArray} (h : byt ss k = se.data.toList) (h1 : byt ss k = [10] ∨ byt ss k = [13, 10] ∨ byt ss k = [13]) :
    ((se.toList == [10]) = true ∧ (se.toList == [13]) = false) ∨ ((se.toList == [10]) = false ∧ (se.toList == [13, 10]) = true ∧ (se.toList == [13]) = false) ∨ ((se.toList == [10]) = false ∧ (se.toList == [13, 10]) = false ∧ (se.toList == [13]) = true) := by
  rw [h] at h1
  simp only [eq_bytes]
  rcases h1 with e | e | e <;> rw [e] <;> decide
theorem is13 {se : ByteArray} (h : (se.toList == [13]) = true) : se.data.toList = [13] := by
  rw [eq_bytes] at h
  exact beq_iff_eq.1 h

set_option maxHeartbeats 4000000 in
set_option maxRecDepth 100000 in
theorem split_good (p q : Option Addr) (n m c d : Nat) (ps es : List ByteArray) (w : World) (h : GoodIn w p q n m c d ps es) :
    Calls Tryd.prog 4 #[.slice p n c, .slice q m d] w fun e w' => e = .returned (.bool true) ∧ Below w.heap.size w w' := by
  have hb10 := bytes10 p q n m c d ps es w h.sp h.se
  have h1 := h.good.hn
  have h2 : m ≤ 65536 := by have := h.good.hm; omega
  have hmn1 : m ≤ n := by have := h.good.hm; omega
  have hmn2 : n ≤ m := by have := h.good.hm; omega
  have HI : Hid (GoodIn w p q n m c d ps es) := h
  clear h
  go_enter Tryd.func4, Tryd.ntmps4
  go_wp2_with fail
  refine hb10.mono ?_
  rintro e w0 ⟨⟨v, rfl⟩, rfl⟩
  clear hb10
  cases v with
  | false =>
    go_wp2
    go_ret
    exact ⟨rfl, Below.refl _ _⟩
  | true =>
    go_wp2_with fail
    go_loopg [5, 6] n (fun g t i wx => ∃ k u : Nat, k ≤ n ∧ n ≤ k + g ∧ i = .int .i64 k ∧ t = .int .i64 u ∧ u ≤ 1048576 ∧ wx = w0 ∧ Hid (u = sz ps k))
    case atStart => exact ⟨0, 0, by omega, by omega, rfl, rfl, by omega, rfl, rfl⟩
    case round =>
      obtain ⟨k, u, hk, hg, rfl, rfl, hu, rfl, HU⟩ := hrel
      by_cases hlt : k < n
      · obtain ⟨b, o, s, hpa, hs, hc⟩ := HI.out.sp.at'.at (k := k) (by rw [HI.out.sp.len]; exact hlt)
        subst hpa
        have HS : Hid (sz ps (k + 1) = sz ps k + (s.size + 16)) := sz_at hs
        have hb : u + s.size + 16 ≤ 1048576 := by
          have a1 := sz_le ps (show k + 1 ≤ n by omega)
          have a2 := HI.out.good.hsz
          have a3 := HS.out; have a4 := HU.out
          omega
        have h3 : ¬ (1048576 < s.size) := by omega
        have h4 : ¬ ((1048576 : Int) < (u : Int) + ((s.size : Int) + 16)) := by omega
        clear hs hb
        go_wp2
        go_roundg (gk - 1)
        case measure => omega
        case rel => exact ⟨k + 1, u + (s.size + 16), by omega, by omega, by go_num, by go_num, by omega, rfl, show _ = _ by rw [HS.out, HU.out]⟩
      · have hkn : k = n := by omega
        have HU2 : Hid (u = sz ps n) := by rw [hkn] at HU; exact HU
        clear HU hkn
        go_wp2_with fail
        go_loopg [5, 7] m (fun g t i wx => ∃ k2 u2 : Nat, k2 ≤ m ∧ m ≤ k2 + g ∧ i = .int .i64 k2 ∧ t = .int .i64 u2 ∧ u2 ≤ 1048576 ∧ wx = wr ∧ Hid (u2 = sz ps n + sz es k2))
        case atStart => exact ⟨0, u, by omega, by omega, rfl, rfl, by omega, rfl, show _ = _ by rw [HU2.out]; rfl⟩
        case round =>
          obtain ⟨k2, u2, hk2, hg2, rfl, rfl, hu2, rfl, HV⟩ := hrel
          by_cases hlt2 : k2 < m
          · obtain ⟨b, o, s, hpa, hs, hc⟩ := HI.out.se.at'.at (k := k2) (by rw [HI.out.se.len]; exact hlt2)
            subst hpa
            have HS : Hid (sz es (k2 + 1) = sz es k2 + (s.size + 16)) := sz_at hs
            have hb : u2 + s.size + 16 ≤ 1048576 := by
              have a1 := sz_le es (show k2 + 1 ≤ n by omega)
              have a2 := HI.out.good.hsz
              have a3 := HS.out; have a4 := HV.out
              omega
            have h3 : ¬ (1048576 < s.size) := by omega
            have h4 : ¬ ((1048576 : Int) < (u2 : Int) + ((s.size : Int) + 16)) := by omega
            clear hs hb
            go_wp2
            go_roundg (gk - 1)
            case measure => omega
            case rel => exact ⟨k2 + 1, u2 + (s.size + 16), by omega, by omega, by go_num, by go_num, by omega, rfl, show _ = _ by rw [HS.out, HV.out, Nat.add_assoc]⟩
          · have HV2 : Hid (u2 = sz ps n + sz es n) := by
              have hkm : k2 = n := by omega
              rw [hkm] at HV; exact HV
            clear HV
            have hnn : ((m : Int) != (n : Int)) = false := by rw [bne_eq_false_iff_eq]; omega
            go_wp2_with fail
            go_loopg [9] n (fun g i wx => ∃ k3 : Nat, k3 ≤ n ∧ n ≤ k3 + g ∧ i = .int .i64 k3 ∧ wx = wr)
            case atStart => exact ⟨0, by omega, by omega, rfl, rfl⟩
            case round =>
              obtain ⟨k3, hk3, hg3, rfl, rfl⟩ := hrel
              obtain ⟨G3, rfl⟩ : ∃ G, G = gk := ⟨gk, rfl⟩
              by_cases hlt3 : k3 < n
              · obtain ⟨bp, op, sp, hpa, hsp, hcp⟩ := HI.out.sp.at'.at (k := k3) (by rw [HI.out.sp.len]; exact hlt3)
                subst hpa
                obtain ⟨be, oe, se, hqa, hse, hce⟩ := HI.out.se.at'.at (k := k3) (by rw [HI.out.se.len]; omega)
                subst hqa
                have hlm3 : k3 < m := by omega
                have hsps := HI.out.sp.small k3 sp hsp
                have HSP : Hid (byt ps k3 = sp.data.toList) := byt_at hsp
                have HSE : Hid (byt es k3 = se.data.toList) := byt_at hse
                clear hsp hse
                have hcase := which_end HSE.out (HI.out.good.v.ends k3 hlt3)
                rcases hcase with ⟨e1, e3⟩ | ⟨e1, e2, e3⟩ | ⟨e1, e2, e3⟩
                · go_wp2_with fail
                  go_loopg [11] sp.size (fun g i wx => ∃ j : Nat, j ≤ sp.size ∧ sp.size ≤ j + g ∧ i = .int .i64 j ∧ wx = wr)
                  case atStart => exact ⟨0, by omega, by omega, rfl, rfl⟩
                  case round =>
                    obtain ⟨j, hj, hgj, rfl, rfl⟩ := hrel
                    by_cases hltj : j < sp.size
                    · obtain ⟨x, hx⟩ : ∃ x : UInt8, sp[j]'hltj = x := ⟨_, rfl⟩
                      have hl : lend x = false := HI.out.good.v.noend k3 hlt3 j x (by rw [HSP.out, ← Lib.size_eq]; exact hltj) (by rw [HSP.out, ← hx]; exact Lib.data_getElem? sp j hltj)
                      go_wp2_with (go_at_call 6; refine (isEnd_any x _).mono ?_; rintro e w' ⟨rfl, rfl⟩)
                      go_roundg (gk - 1)
                      case measure => omega
                      case rel => exact ⟨j + 1, by omega, by omega, by go_num, rfl⟩
                    · go_wp2
                      go_roundg (G3 - 1)
                      case measure => omega
                      case rel => exact ⟨k3 + 1, by omega, by omega, by go_num, rfl⟩
                · go_wp2_with fail
                  go_loopg [11] sp.size (fun g i wx => ∃ j : Nat, j ≤ sp.size ∧ sp.size ≤ j + g ∧ i = .int .i64 j ∧ wx = wr)
                  case atStart => exact ⟨0, by omega, by omega, rfl, rfl⟩
                  case round =>
                    obtain ⟨j, hj, hgj, rfl, rfl⟩ := hrel
                    by_cases hltj : j < sp.size
                    · obtain ⟨x, hx⟩ : ∃ x : UInt8, sp[j]'hltj = x := ⟨_, rfl⟩
                      have hl : lend x = false := HI.out.good.v.noend k3 hlt3 j x (by rw [HSP.out, ← Lib.size_eq]; exact hltj) (by rw [HSP.out, ← hx]; exact Lib.data_getElem? sp j hltj)
                      go_wp2_with (go_at_call 6; refine (isEnd_any x _).mono ?_; rintro e w' ⟨rfl, rfl⟩)
                      go_roundg (gk - 1)
                      case measure => omega
                      case rel => exact ⟨j + 1, by omega, by omega, by go_num, rfl⟩
                    · go_wp2
                      go_roundg (G3 - 1)
                      case measure => omega
                      case rel => exact ⟨k3 + 1, by omega, by omega, by go_num, rfl⟩
                · go_wp2_with fail
                  go_loopg [11] sp.size (fun g i wx => ∃ j : Nat, j ≤ sp.size ∧ sp.size ≤ j + g ∧ i = .int .i64 j ∧ wx = wr)
                  case atStart => exact ⟨0, by omega, by omega, rfl, rfl⟩
                  case round =>
                    obtain ⟨j, hj, hgj, rfl, rfl⟩ := hrel
                    by_cases hltj : j < sp.size
                    · obtain ⟨x, hx⟩ : ∃ x : UInt8, sp[j]'hltj = x := ⟨_, rfl⟩
                      have hl : lend x = false := HI.out.good.v.noend k3 hlt3 j x (by rw [HSP.out, ← Lib.size_eq]; exact hltj) (by rw [HSP.out, ← hx]; exact Lib.data_getElem? sp j hltj)
                      go_wp2_with (go_at_call 6; refine (isEnd_any x _).mono ?_; rintro e w' ⟨rfl, rfl⟩)
                      go_roundg (gk - 1)
                      case measure => omega
                      case rel => exact ⟨j + 1, by omega, by omega, by go_num, rfl⟩
                    · by_cases hk4 : k3 + 1 < n
                      · obtain ⟨b', o', sq, hpa, hsq, hcq⟩ := HI.out.sp.at'.at (k := k3 + 1) (by rw [HI.out.sp.len]; exact hk4)
                        simp only [Option.some.injEq, Addr.mk.injEq, and_true] at hpa
                        obtain ⟨rfl, rfl⟩ := hpa
                        have hzb : ((sq.size : Int) == 0) = false := by
                          have h5 := HI.out.good.v.next k3 hk4 (by rw [HSE.out]; exact is13 e3)
                          rw [byt_at hsq] at h5
                          rw [beq_eq_false_iff_ne]
                          intro h6
                          exact h5 (List.length_eq_zero_iff.1 (by rw [← Lib.size_eq]; omega))
                        clear hsq
                        go_wp2
                        go_roundg (G3 - 1)
                        case measure => omega
                        case rel => exact ⟨k3 + 1, by omega, by omega, by go_num, rfl⟩
                      · go_wp2
                        go_roundg (G3 - 1)
                        case measure => omega
                        case rel => exact ⟨k3 + 1, by omega, by omega, by go_num, rfl⟩
              · -- behind the checks
                obtain ⟨p1, c1, hcl1⟩ := cloneS_buf HI.out.sp HI.out.hp h1
                have HC1 : Hid (Calls _ _ _ _ _) := hcl1
                clear hcl1
                go_wp2_with fail
                refine HC1.out.mono ?_
                rintro e wa ⟨rfl, hsp1, hBa⟩
                have HPA : Hid (StrIn wa p1 n ps) := hsp1
                obtain ⟨q1, d1, hcl2⟩ := cloneS_buf (HI.out.se.below hBa) HI.out.hq h2
                have HC2 : Hid (Calls _ _ _ _ _) := hcl2
                clear hcl2 hsp1
                go_wp2_with fail
                refine HC2.out.mono ?_
                rintro e wb ⟨rfl, hse1, hBb⟩
                have HBW : Hid (Below wr.heap.size wr wb) := hBa.trans (hBb.mono hBa.size)
                have HPB : Hid (StrIn wb p1 n ps) := HPA.out.below hBb
                have HQB : Hid (StrIn wb q1 m es) := hse1
                clear hse1 hBa hBb HPA HC1 HC2
                obtain ⟨i0, hi, hz0, hz1, hz2⟩ := info_parts info5
                go_wp2_with (at_make; refine wpList_make_own _ rfl _ _ 22 rfl wb.heap.size 5 i0 (.int .u8 0) 1 Tryd.underlying22 hi hz0 hz1 _ _ _ u2 rfl rfl (by omega) (by rw [hz2]; omega) (by unfold maxLen; omega) (Nat.le_refl _) ?_; intro wc hown hgrow)
                have HO : Hid (wc.ownsRow wb.heap.size 5 1 (.slice (some ⟨wb.heap.size, 0, none⟩) 0 u2) 0 [] ∧ Below wb.heap.size wb wc) := ⟨hown, (Below.refl _ _).grown hgrow (Nat.le_refl _) (fun k h => by cases h)⟩
                clear hown hgrow
                have htot := len_sz ps es n
                have hvu := HV2.out
                have hbn : (buf ps es n).length ≤ 1048576 := by omega
                clear htot hvu
                go_loopg [12, 13] n (fun g v i wx => ∃ (k4 N4 : Nat), k4 ≤ n ∧ n ≤ k4 + g ∧ i = .int .i64 k4 ∧ N4 ≤ 1048576 ∧ Hid (N4 = (buf ps es k4).length ∧ wx.ownsRow wb.heap.size 5 1 v N4 (bcells (buf ps es k4)) ∧ Below wb.heap.size wb wx))
                case atStart => exact ⟨0, 0, by omega, by omega, rfl, by omega, rfl, HO.out.1, HO.out.2⟩
                case round =>
                  obtain ⟨k4, N4, hk4, hg4, rfl, hN4, HR⟩ := hrel
                  by_cases hlt4 : k4 < n
                  · obtain ⟨e1, hown, hbel⟩ := HR.out
                    have hbws := hbel.size
                    obtain ⟨bp, op, sp, hpa, hsp, hcp0⟩ := HPB.out.at'.at (k := k4) (by rw [HPB.out.len]; exact hlt4)
                    subst hpa
                    obtain ⟨be, oe, se, hqa, hse, hce0⟩ := HQB.out.at'.at (k := k4) (by rw [HQB.out.len]; omega)
                    subst hqa
                    have hlm4 : k4 < m := by omega
                    have hcp : wr.cell? ⟨bp, op + k4, none⟩ = some (.string sp) := (hbel.cell (p := ⟨bp, op + k4, none⟩) (World.block_lt_of_cell? _ _ hcp0)).trans hcp0
                    have hbE : be < wb.heap.size := World.block_lt_of_cell? _ _ hce0
                    have hb1 : N4 + sp.size + se.size ≤ 1048576 := by
                      obtain ⟨r, hr⟩ := buf_ext ps es (k4 + 1) (n - (k4 + 1))
                      have h5 := congrArg List.length hr
                      rw [show k4 + 1 + (n - (k4 + 1)) = n by omega, List.length_append, buf_len, byt_at hsp, byt_at hse, ← Lib.size_eq, ← Lib.size_eq] at h5
                      omega
                    have HNX : Hid (buf ps es (k4 + 1) = buf ps es k4 ++ sp.data.toList ++ se.data.toList) := by
                      show buf ps es k4 ++ (byt ps k4 ++ byt es k4) = _
                      rw [byt_at hsp, byt_at hse, List.append_assoc]
                    have HCE : Hid (wb.cell? ⟨be, oe + k4, none⟩ = some (.string se)) := hce0
                    have HBEL : Hid (Below wb.heap.size wb wr) := hbel
                    have HN4 : Hid (N4 = (buf ps es k4).length) := e1
                    clear hcp0 hce0 hsp hse HR hbel e1
                    go_wp2_with (first
                      | (at_builtin; refine Lib.wpList_append_own_string _ rfl (.tmp 161) (.tmp 165) 22 9 rfl wb.heap.size 5 i0 Tryd.underlying22 Tryd.underlying9 hi hz0 hz1 hz2 _ N4 _ rfl hown sp rfl (by unfold maxLen; omega) (by omega) (by omega) ?_; intro v1 w1 hown1 hgrow1 _; have hB1 : Below wb.heap.size wb w1 := HBEL.out.grown hgrow1 hbws (own_base hown); have hce : w1.cell? ⟨be, oe + k4, none⟩ = some (.string se) := (hB1.cell (p := ⟨be, oe + k4, none⟩) hbE).trans HCE.out; have hw1s := hB1.size; clear hgrow1)
                      | (at_builtin; refine Lib.wpList_append_own_string _ rfl (.tmp 167) (.tmp 171) 22 9 rfl wb.heap.size 5 i0 Tryd.underlying22 Tryd.underlying9 hi hz0 hz1 hz2 _ (N4 + sp.size) _ rfl hown1 se rfl (by unfold maxLen; omega) (by omega) (by omega) ?_; intro v2 w2 hown2 hgrow2 _))
                    have HN : Hid (N4 + sp.size + se.size = (buf ps es (k4 + 1)).length ∧ w2.ownsRow wb.heap.size 5 1 v2 (N4 + sp.size + se.size) (bcells (buf ps es (k4 + 1))) ∧ Below wb.heap.size wb w2) := by
                      refine ⟨?_, ?_, hB1.grown hgrow2 hw1s (own_base hown1)⟩
                      · rw [HNX.out, List.length_append, List.length_append, ← HN4.out, ← Lib.size_eq, ← Lib.size_eq]
                      · rw [HNX.out, bcells_app, bcells_app, ← bcells_str, ← bcells_str]
                        exact hown2
                    clear hown hown1 hown2 hgrow2 hB1
                    go_wp2
                    go_roundg (gk - 1)
                    case measure => omega
                    case rel => exact ⟨k4 + 1, N4 + sp.size + se.size, by omega, by omega, by go_num, by omega, HN⟩
                  · have hk4n : k4 = n := by omega
                    obtain ⟨p4, c4, hv4, hb4⟩ := bufIn_of (l := buf ps es n) (N := N4) (by have := HR.out.2.1; rw [hk4n] at this; exact this) (by rw [HR.out.1, hk4n]) hN4 (HI.out.libs.below (HBW.out.trans (HR.out.2.2.mono HBW.out.size)))
                    subst hv4
                    have HB4 : Hid (BufIn wr p4 N4 c4 (buf ps es n)) := hb4
                    have HBL : Hid (Below wb.heap.size wb wr) := HR.out.2.2
                    have HPS : Hid (StrIn wr p1 n ps) := HPB.out.below HBL.out
                    have HQS : Hid (StrIn wr q1 m es) := HQB.out.below HBL.out
                    have HNL : Hid (N4 = (buf ps es n).length) := by rw [hk4n] at HR; exact HR.out.1
                    clear hb4 HR hk4n HPB HQB HO hi hz0 hz1 hz2
                    obtain ⟨W4, rfl⟩ : ∃ W, W = wr := ⟨wr, rfl⟩
                    go_wp2_with fail
                    go_loopg [14, 15, 16] n (fun g po so i wx => ∃ k5 : Nat, k5 ≤ n ∧ n ≤ k5 + g ∧ i = .int .i64 k5 ∧ po = .int .i64 ((buf ps es k5).length : Int) ∧ so = .int .i64 0 ∧ Hid (Below W4.heap.size W4 wx))
                    case atStart => exact ⟨0, by omega, by omega, rfl, rfl, rfl, Below.refl _ _⟩
                    case round =>
                      obtain ⟨k5, hk5, hg5, rfl, rfl, rfl, HBF⟩ := hrel
                      by_cases hlt5 : k5 < n
                      · obtain ⟨b5, o5, hp5, hbat5, hz5⟩ := zz_round0 (HB4.out.below HBF.out) HI.out.good.v hlt5 true (fun _ _ => rfl)
                        have HZ5 : Hid (Calls _ _ _ _ _) := hz5
                        have HBAT : Hid (∀ W, Below wr.heap.size wr W → BAt W (some ⟨b5, o5 + (buf ps es k5).length, none⟩) (byt ps k5)) := hbat5
                        obtain ⟨bp, op, sp, hpa, hsp, hcp0⟩ := HPS.out.at'.at (k := k5) (by rw [HPS.out.len]; exact hlt5)
                        have hbps : bp < W4.heap.size := World.block_lt_of_cell? _ _ hcp0
                        have HSP : Hid (byt ps k5 = sp.data.toList) := byt_at hsp
                        have HCP : Hid (W4.cell? ⟨bp, op + k5, none⟩ = some (.string sp)) := hcp0
                        have hsps : sp.size ≤ 1048576 := by
                          have h5 := sz_at hsp
                          have h6 := sz_le ps (show k5 + 1 ≤ n by omega)
                          have h7 := HI.out.good.hsz
                          omega
                        subst hpa hp5
                        clear hz5 hbat5 hsp hcp0
                        go_wp2_with fail
                        refine HZ5.out.mono ?_
                        rintro e w5 ⟨rfl, hB5⟩
                        have hBW5 : Below W4.heap.size W4 w5 := HBF.out.trans (hB5.mono HBF.out.size)
                        have hcp : w5.cell? ⟨bp, op + k5, none⟩ = some (.string sp) := (hBW5.cell (p := ⟨bp, op + k5, none⟩) hbps).trans HCP.out
                        have HST : Hid (∀ W, Below wr.heap.size wr W → Calls Tryd.prog 12 #[.slice (some ⟨b5, o5 + (buf ps es k5).length, none⟩) (byt ps k5).length (c4 - (buf ps es k5).length), .string sp] W fun e w' => e = .returned (.bool true) ∧ Below W.heap.size W w') := fun W hW =>
                          sameText _ _ _ sp W (by rw [HSP.out, Lib.size_eq]) (by have := HBAT.out W hW; rw [HSP.out] at this; exact this) (by rw [HSP.out, ← Lib.size_eq]; exact hsps)
                        go_wp2_with fail
                        refine (HST.out _ hB5).mono ?_
                        rintro e w6 ⟨rfl, hB6⟩
                        go_wp2
                        go_roundg (gk - 1)
                        case measure => omega
                        case rel => exact ⟨k5 + 1, by omega, by omega, by go_num, rfl, rfl, hBW5.trans (hB6.mono hBW5.size)⟩
                      · have HZ6 : Hid (Calls _ _ _ _ _) := zz_doneK (HB4.out.below HBF.out) true k5 (by omega)
                        have hnq := neqNil
                        have heq5 : (((buf ps es k5).length : Int) != (N4 : Int)) = false := by
                          have h5 : k5 = n := by omega
                          rw [bne_eq_false_iff_eq, HNL.out, h5]
                        go_wp2_with fail
                        refine HZ6.out.mono ?_
                        rintro e w7 ⟨rfl, hB7⟩
                        have HBH : Hid (Below W4.heap.size W4 w7) := HBF.out.trans (hB7.mono HBF.out.size)
                        clear hB7 HBF
                        go_wp2_with fail
                        clear hnq
                        go_loopg [14, 15, 25] n (fun g po so i wx => ∃ k6 : Nat, k6 ≤ n ∧ n ≤ k6 + g ∧ i = .int .i64 k6 ∧ po = .int .i64 ((buf ps es k6).length : Int) ∧ so = .int .i64 0 ∧ Hid (Below W4.heap.size W4 wx))
                        case atStart => exact ⟨0, by omega, by omega, rfl, rfl, rfl, HBH.out⟩
                        case round =>
                          obtain ⟨k6, hk6, hg6, rfl, rfl, rfl, HBG⟩ := hrel
                          by_cases hlt6 : k6 < n
                          · by_cases hlast : k6 + 1 = n
                            · have hkn6 : ((k6 : Int) == (n : Int) - 1) = true := by rw [beq_iff_eq]; omega
                              obtain ⟨be, oe, se, hqa, hse, hce0⟩ := HQS.out.at'.at (k := k6) (by rw [HQS.out.len]; omega)
                              have hbes : be < W4.heap.size := World.block_lt_of_cell? _ _ hce0
                              have HSE : Hid (byt es k6 = se.data.toList) := byt_at hse
                              have HCE : Hid (W4.cell? ⟨be, oe + k6, none⟩ = some (.string se)) := hce0
                              have hlm6 : k6 < m := by omega
                              subst hqa
                              clear hse hce0
                              by_cases h13 : byt es k6 = [13]
                              · have hs13 : (se.toList == [13]) = true := by rw [eq_bytes, ← HSE.out, h13]; rfl
                                have HZ9 : Hid (Calls _ _ _ _ _) := zz_kept0 (HB4.out.below HBG.out) HI.out.good.v hlast h13
                                have hq := eqlNil
                                clear hlast h13
                                go_wp2_with fail
                                refine HZ9.out.mono ?_
                                rintro e w9 ⟨rfl, hB9⟩
                                have hBW9 : Below W4.heap.size W4 w9 := HBG.out.trans (hB9.mono HBG.out.size)
                                have hce : w9.cell? ⟨be, oe + k6, none⟩ = some (.string se) := (hBW9.cell (p := ⟨be, oe + k6, none⟩) hbes).trans HCE.out
                                go_wp2
                                go_ret
                                exact ⟨rfl, (HBW.out.trans (HBL.out.mono HBW.out.size)).trans (hBW9.mono (Nat.le_trans HBW.out.size HBL.out.size))⟩
                              · have hs13 : (se.toList == [13]) = false := by
                                  rw [eq_bytes, beq_eq_false_iff_ne, ← HSE.out]; exact h13
                                obtain ⟨b7, o7, hp7, hbat7, hz7⟩ := zz_round0 (HB4.out.below HBG.out) HI.out.good.v hlt6 false (fun _ h => absurd h h13)
                                clear hlast h13
                                have HZ7 : Hid (Calls _ _ _ _ _) := hz7
                                have HBAT : Hid (∀ W, Below wr.heap.size wr W → BAt W (some ⟨b7, o7 + (buf ps es k6).length, none⟩) (byt ps k6)) := hbat7
                                obtain ⟨bp, op, sp, hpa, hsp, hcp0⟩ := HPS.out.at'.at (k := k6) (by rw [HPS.out.len]; exact hlt6)
                                have hbps : bp < W4.heap.size := World.block_lt_of_cell? _ _ hcp0
                                have HSP : Hid (byt ps k6 = sp.data.toList) := byt_at hsp
                                have HCP : Hid (W4.cell? ⟨bp, op + k6, none⟩ = some (.string sp)) := hcp0
                                have hsps : sp.size ≤ 1048576 := by
                                  have h5 := sz_at hsp
                                  have h6 := sz_le ps (show k6 + 1 ≤ n by omega)
                                  have h7 := HI.out.good.hsz
                                  omega
                                subst hpa hp7
                                clear hz7 hbat7 hsp hcp0
                                go_wp2_with fail
                                refine HZ7.out.mono ?_
                                rintro e w9 ⟨rfl, hB9⟩
                                have hBW9 : Below W4.heap.size W4 w9 := HBG.out.trans (hB9.mono HBG.out.size)
                                have hcp : w9.cell? ⟨bp, op + k6, none⟩ = some (.string sp) := (hBW9.cell (p := ⟨bp, op + k6, none⟩) hbps).trans HCP.out
                                have hce : w9.cell? ⟨be, oe + k6, none⟩ = some (.string se) := (hBW9.cell (p := ⟨be, oe + k6, none⟩) hbes).trans HCE.out
                                have HST : Hid (∀ W, Below wr.heap.size wr W → Calls Tryd.prog 12 #[.slice (some ⟨b7, o7 + (buf ps es k6).length, none⟩) (byt ps k6).length (c4 - (buf ps es k6).length), .string sp] W fun e w' => e = .returned (.bool true) ∧ Below W.heap.size W w') := fun W hW =>
                                  sameText _ _ _ sp W (by rw [HSP.out, Lib.size_eq]) (by have := HBAT.out W hW; rw [HSP.out] at this; exact this) (by rw [HSP.out, ← Lib.size_eq]; exact hsps)
                                go_wp2_with fail
                                refine (HST.out _ hB9).mono ?_
                                rintro e w10 ⟨rfl, hB10⟩
                                go_wp2
                                go_roundg (gk - 1)
                                case measure => omega
                                case rel => exact ⟨k6 + 1, by omega, by omega, by go_num, rfl, rfl, hBW9.trans (hB10.mono hBW9.size)⟩
                            · have hkn6 : ((k6 : Int) == (n : Int) - 1) = false := by rw [beq_eq_false_iff_ne]; omega
                              obtain ⟨b7, o7, hp7, hbat7, hz7⟩ := zz_round0 (HB4.out.below HBG.out) HI.out.good.v hlt6 false (fun h => absurd h hlast)
                              clear hlast
                              have HZ7 : Hid (Calls _ _ _ _ _) := hz7
                              have HBAT : Hid (∀ W, Below wr.heap.size wr W → BAt W (some ⟨b7, o7 + (buf ps es k6).length, none⟩) (byt ps k6)) := hbat7
                              obtain ⟨bp, op, sp, hpa, hsp, hcp0⟩ := HPS.out.at'.at (k := k6) (by rw [HPS.out.len]; exact hlt6)
                              have hbps : bp < W4.heap.size := World.block_lt_of_cell? _ _ hcp0
                              have HSP : Hid (byt ps k6 = sp.data.toList) := byt_at hsp
                              have HCP : Hid (W4.cell? ⟨bp, op + k6, none⟩ = some (.string sp)) := hcp0
                              have hsps : sp.size ≤ 1048576 := by
                                have h5 := sz_at hsp
                                have h6 := sz_le ps (show k6 + 1 ≤ n by omega)
                                have h7 := HI.out.good.hsz
                                omega
                              subst hpa hp7
                              clear hz7 hbat7 hsp hcp0
                              go_wp2_with fail
                              refine HZ7.out.mono ?_
                              rintro e w9 ⟨rfl, hB9⟩
                              have hBW9 : Below W4.heap.size W4 w9 := HBG.out.trans (hB9.mono HBG.out.size)
                              have hcp : w9.cell? ⟨bp, op + k6, none⟩ = some (.string sp) := (hBW9.cell (p := ⟨bp, op + k6, none⟩) hbps).trans HCP.out
                              have HST : Hid (∀ W, Below wr.heap.size wr W → Calls Tryd.prog 12 #[.slice (some ⟨b7, o7 + (buf ps es k6).length, none⟩) (byt ps k6).length (c4 - (buf ps es k6).length), .string sp] W fun e w' => e = .returned (.bool true) ∧ Below W.heap.size W w') := fun W hW =>
                                sameText _ _ _ sp W (by rw [HSP.out, Lib.size_eq]) (by have := HBAT.out W hW; rw [HSP.out] at this; exact this) (by rw [HSP.out, ← Lib.size_eq]; exact hsps)
                              go_wp2_with fail
                              refine (HST.out _ hB9).mono ?_
                              rintro e w10 ⟨rfl, hB10⟩
                              go_wp2
                              go_roundg (gk - 1)
                              case measure => omega
                              case rel => exact ⟨k6 + 1, by omega, by omega, by go_num, rfl, rfl, hBW9.trans (hB10.mono hBW9.size)⟩
                          · have HZ8 : Hid (Calls _ _ _ _ _) := zz_doneK (HB4.out.below HBG.out) false k6 (by omega)
                            have heq6 : (((buf ps es k6).length : Int) == (N4 : Int)) = true := by
                              have h5 : k6 = n := by omega
                              rw [beq_iff_eq, HNL.out, h5]
                            have hq := eqlNil
                            go_wp2_with fail
                            refine HZ8.out.mono ?_
                            rintro e w8 ⟨rfl, hB8⟩
                            go_wp2
                            go_ret
                            exact ⟨rfl, ((HBW.out.trans (HBL.out.mono HBW.out.size)).trans (HBG.out.mono (Nat.le_trans HBW.out.size HBL.out.size))).trans (hB8.mono (Nat.le_trans (Nat.le_trans HBW.out.size HBL.out.size) HBG.out.size))⟩
end Go.Proofs.Qxb6002908aDoor
