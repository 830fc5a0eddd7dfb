/-
  bytes.IndexAny over CR LF at two bytes and more.
-/
import Derived.Test.Qxb6002908aDoorIdx
namespace Go.Proofs.Qxb6002908aDoor
open Go.RowKit Go.Shelf Go.Lib

set_option maxHeartbeats 1600000 in
set_option maxRecDepth 1000000 in
/-- Two to eight bytes. -/
theorem idx_short (l : List UInt8) (b o n c : Nat) (w : World) (hl : l.length = n) (h2 : 2 ≤ n) (h8 : n ≤ 8) (hnc : n ≤ c) (hL : Libs w) (hc : ∀ (i : Nat) x, l[i]? = some x → w.cell? ⟨b, o + i, none⟩ = some (.int .u8 (x.toNat : Int))) :
    Calls Tryd.prog 14 #[.slice (some ⟨b, o, none⟩) n c, .string ⟨#[13, 10]⟩] w fun e w' => e = .returned (.int .i64 (Lib.indexAny l [13, 10])) ∧ Below w.heap.size w w' := by
  have h8z : decide ((8 : Int) < (n : Int)) = false := decide_eq_false (by omega)
  have h15 := call15
  have HL : Hid (l.length = n) := hl
  have HLb : Hid (Libs w) := hL
  have HC : Hid (∀ (i : Nat) x, l[i]? = some x → w.cell? ⟨b, o + i, none⟩ = some (.int .u8 (x.toNat : Int))) := hc
  clear hl hL hc
  have hn1 : ((n : Int) == 1) = false := beq_eq_false_iff_ne.2 (by omega)
  go_enter Tryd.func14, Tryd.ntmps14
  go_wp2_with (go_at_call 17; refine (useSet _ _).mono ?_; rintro e w' ⟨rfl, hw⟩; rw [hw, h8z])
  go_loopg [12] n (fun g i wx => ∃ k : Nat, k ≤ n ∧ n ≤ k + g ∧ i = .int .i64 k ∧ Hid (Lib.NoAny l [13, 10] k ∧ Below w.heap.size w wx))
  case atStart => exact ⟨0, by omega, by omega, rfl, Lib.NoAny.zero _ _, Below.refl _ _⟩
  case round =>
    obtain ⟨k, hk, hg, rfl, HR⟩ := hrel
    by_cases hlt : k < n
    · have hkl : k < l.length := by rw [HL.out]; exact hlt
      obtain ⟨x, hx⟩ : ∃ x, l[k]? = some x := ⟨_, List.getElem?_eq_getElem hkl⟩
      have hck := HC.out k x hx
      have hcr : wr.cell? ⟨b, o + k, none⟩ = some (.int .u8 (x.toNat : Int)) := (HR.out.2.cell (p := ⟨b, o + k, none⟩) (World.block_lt_of_cell? _ _ hck)).trans hck
      have HX : Hid (l[k]? = some x) := hx
      have hx256 : (x.toNat : Int) < 256 := by have := UInt8.toNat_lt x; omega
      clear hx hck hkl
      by_cases hx8 : x.toNat < 128
      · have hback : ((x.toNat : Int)).toNat.toUInt8 = x := by simp
        have hli := lend_index x
        cases hin : lend x
        · rw [hin] at hli
          have hltx : ¬ ((0 : Int) ≤ Lib.indexByte [13, 10] x) := of_decide_eq_false hli.symm
          have HE : Hid ([13, 10].contains x = false) := hin
          clear hli hin
          go_wp2
          go_roundg (gk - 1)
          case measure => omega
          case rel => exact ⟨k + 1, by omega, by omega, by go_num, HR.out.1.succ HX.out HE.out, HR.out.2⟩
        · rw [hin] at hli
          have hltx : (0 : Int) ≤ Lib.indexByte [13, 10] x := of_decide_eq_true hli.symm
          have HE : Hid ([13, 10].contains x = true) := hin
          clear hli hin
          go_wp2
          go_ret
          exact ⟨by rw [Lib.indexAny_hit HR.out.1 HX.out HE.out]; rfl, HR.out.2⟩
      · have hLr := HLb.out.below HR.out.2
        have hdec := dec_at l b o (c - k) k wr hLr (fun i y hy => (HR.out.2.cell (p := ⟨b, o + i, none⟩) (World.block_lt_of_cell? _ _ (HC.out i y hy))).trans (HC.out i y hy))
        obtain ⟨d1, d2, d3, d4, d5, d6, d7⟩ := dec_hi l k x HX.out (by omega) HR.out.1
        rw [HL.out] at hdec d5
        generalize Lib.decodeGo ⟨(l.drop k).toArray⟩ = d at *
        obtain ⟨r, wd⟩ := d
        simp only at hdec d1 d2 d3 d4 d5 d6 d7
        obtain ⟨q1, q2⟩ := index_crlf r (by omega) (by omega) (by omega)
        have HD6 : Hid (Lib.NoAny l [13, 10] (k + wd)) := d6
        have HD7 : Hid (r ≠ 65533 → (Utf8.encode (r : Int)).size = wd) := d7
        have hx8' : (128 : Int) ≤ (x.toNat : Int) := by omega
        have hcne : ¬ c = k := by omega
        have HQ : Hid (Lib.index [13, 10] (Utf8.encode (r : Int)).data.toList = -1 ∧ ([13, 10] == (Utf8.encode (r : Int)).data.toList) = false) := ⟨q1, q2⟩
        have HDec : Hid (Calls _ _ _ _ _) := hdec
        have HD3 : Hid (r < 55296 ∨ 57344 ≤ r) := d3
        have HLr : Hid (Libs wr) := hLr
        clear d6 d7 hx8 h15 q1 q2 hdec d3 hLr
        obtain ⟨G, rfl⟩ : ∃ G, G = gk := ⟨gk, rfl⟩
        obtain ⟨m, hm⟩ := HLr.out.2
        have HM : Hid (wr.cell? ⟨0, 0, none⟩ = some (.int .i64 m)) := hm
        clear hm
        by_cases hr : r = 65533
        · have hrb : ((r : Int) != 65533) = false := by rw [hr]; rfl
          have HRr : Hid (r = 65533) := hr
          clear hr
          go_wp2_with fail
          refine HDec.out.mono ?_
          rintro e w2 ⟨rfl, hB2⟩
          have hm2 : w2.cell? ⟨0, 0, none⟩ = some (.int .i64 m) := (hB2.cell (p := ⟨0, 0, none⟩) (World.block_lt_of_cell? _ _ HM.out)).trans HM.out
          go_wp2_with fail
          go_loopg [15] 2 (fun g _ wy => ∃ j : Nat, j + g = 2 ∧ wy = w2.iter ⟨#[13, 10]⟩ j)
          case atStart => exact ⟨0, by omega, rfl⟩
          case round =>
            obtain ⟨j, hjg, rfl⟩ := hrel
            have hn13 : ((r : Int) == 13) = false := beq_eq_false_iff_ne.2 (by omega)
            have hn10 : ((r : Int) == 10) = false := beq_eq_false_iff_ne.2 (by omega)
            cases gk with
            | zero =>
              obtain rfl : j = 2 := by omega
              have hnx := fun ty => run_next_end (P := Tryd.prog) w2 ⟨#[13, 10]⟩ 2 ty (by decide)
              go_wp2
              go_roundg (G - 1)
              case measure => omega
              case rel => exact ⟨k + wd, by omega, by omega, by go_num, HD6.out, (HR.out.2.trans (hB2.mono HR.out.2.size)).alloc (Nat.le_trans HR.out.2.size hB2.size) _⟩
            | succ g =>
              by_cases h1 : j = 0
              · subst h1
                have hnx := next0 w2
                go_wp2
                go_roundg g
                case measure => omega
                case rel => exact ⟨1, by omega, rfl⟩
              · obtain rfl : j = 1 := by omega
                have hnx := next1 w2
                go_wp2
                go_roundg g
                case measure => omega
                case rel => exact ⟨2, by omega, rfl⟩
        · have hrb : ((r : Int) != 65533) = true := by rw [bne_iff_ne]; omega
          have hsz := HD7.out hr
          by_cases hwd : wd = 2
          · have hwb : ((2 : Int) == (wd : Int)) = true := by rw [hwd]; rfl
            have hq2 : ([13, 10] == (Utf8.encode (r : Int)).toList) = false := by
              rw [Lib.toList_data]; exact HQ.out.2
            clear hwd hr hsz
            go_wp2_with fail
            refine HDec.out.mono ?_
            rintro e w2 ⟨rfl, hB2⟩
            have hm2 : w2.cell? ⟨0, 0, none⟩ = some (.int .i64 m) := (hB2.cell (p := ⟨0, 0, none⟩) (World.block_lt_of_cell? _ _ HM.out)).trans HM.out
            go_wp2_with fail
            go_roundg (G - 1)
            case measure => omega
            case rel => exact ⟨k + wd, by omega, by omega, by go_num, HD6.out, HR.out.2.trans (hB2.mono HR.out.2.size)⟩
          · have hwb : ((2 : Int) == (wd : Int)) = false := by rw [beq_eq_false_iff_ne]; omega
            by_cases hmw : (wd : Int) ≤ m
            · have H2 : Hid (2 ≤ (Utf8.encode (r : Int)).size ∧ ((Utf8.encode (r : Int)).size : Int) ≤ m) := by
                have h3 := HD3.out
                refine ⟨?_, by omega⟩
                rw [encode_size _ (by omega) (by omega) (by omega)]
                split
                · omega
                · split <;> omega
              clear hwd hr hsz
              go_wp2_with fail
              refine HDec.out.mono ?_
              rintro e w2 ⟨rfl, hB2⟩
              have hm2 : w2.cell? ⟨0, 0, none⟩ = some (.int .i64 m) := (hB2.cell (p := ⟨0, 0, none⟩) (World.block_lt_of_cell? _ _ HM.out)).trans HM.out
              have h21' := call21 r w2 m hm2 H2.out.1 H2.out.2
              rw [HQ.out.1] at h21'
              go_wp2_with fail
              go_roundg (G - 1)
              case measure => omega
              case rel => exact ⟨k + wd, by omega, by omega, by go_num, HD6.out, HR.out.2.trans (hB2.mono HR.out.2.size)⟩
            · clear hwd hr hsz
              go_wp2_with fail
              refine HDec.out.mono ?_
              rintro e w2 ⟨rfl, hB2⟩
              have hm2 : w2.cell? ⟨0, 0, none⟩ = some (.int .i64 m) := (hB2.cell (p := ⟨0, 0, none⟩) (World.block_lt_of_cell? _ _ HM.out)).trans HM.out
              go_wp2_with fail
              go_loopg [15] 2 (fun g _ wy => ∃ j : Nat, j + g = 2 ∧ wy = w2.iter ⟨#[13, 10]⟩ j)
              case atStart => exact ⟨0, by omega, rfl⟩
              case round =>
                obtain ⟨j, hjg, rfl⟩ := hrel
                have hn13 : ((r : Int) == 13) = false := beq_eq_false_iff_ne.2 (by omega)
                have hn10 : ((r : Int) == 10) = false := beq_eq_false_iff_ne.2 (by omega)
                cases gk with
                | zero =>
                  obtain rfl : j = 2 := by omega
                  have hnx := fun ty => run_next_end (P := Tryd.prog) w2 ⟨#[13, 10]⟩ 2 ty (by decide)
                  go_wp2
                  go_roundg (G - 1)
                  case measure => omega
                  case rel => exact ⟨k + wd, by omega, by omega, by go_num, HD6.out, (HR.out.2.trans (hB2.mono HR.out.2.size)).alloc (Nat.le_trans HR.out.2.size hB2.size) _⟩
                | succ g =>
                  by_cases h1 : j = 0
                  · subst h1
                    have hnx := next0 w2
                    go_wp2
                    go_roundg g
                    case measure => omega
                    case rel => exact ⟨1, by omega, rfl⟩
                  · obtain rfl : j = 1 := by omega
                    have hnx := next1 w2
                    go_wp2
                    go_roundg g
                    case measure => omega
                    case rel => exact ⟨2, by omega, rfl⟩
    · obtain rfl : k = n := by omega
      go_wp2
      go_ret
      exact ⟨by rw [Lib.indexAny_none (by rw [HL.out]; exact HR.out.1)]; rfl, HR.out.2⟩
end Go.Proofs.Qxb6002908aDoor
