/-
  strings.IndexRune over the two blanks at a rune beyond ASCII; strings.IndexAny over the two blanks at every string.
-/
import Derived.Test.Qxb6002703aDoorLay
import Derived.Test.Qxb6002703aDoorRows
import Derived.WalkSpells
import Derived.WalkLawsBesides
import Derived.Laws.RangeAny
import Derived.Lib.DecodeN
import Derived.Deep.LoopGhost
import Derived.BigQuiet
import Derived.Lib.OthersKept
import Derived.WalkSmall
import Derived.Deep.QuietTactic
namespace Go.Proofs.Qxb6002703aDoor
open Go.RowKit Go.Shelf Go.Lib

theorem encode_hi (r : Int) (h0 : 128 ≤ r) (h1 : r ≤ 1114111) (hv : r < 55296 ∨ 57344 ≤ r) :
    ∃ l : List UInt8, (Utf8.encode r) = ⟨l.toArray⟩ ∧ 2 ≤ l.length ∧ l.length ≤ 4 ∧ ∀ x, l[l.length - 1]? = some x → 128 ≤ x.toNat := by
  have hval : Utf8.valid r = true := by simp [Utf8.valid]; omega
  have hlast : (128 : Nat) ≤ (UInt8.ofNat (0x80 + r.toNat % 64)).toNat := by
    rw [UInt8.toNat_ofNat', Nat.mod_eq_of_lt (by omega)]; omega
  unfold Utf8.encode
  simp only [hval, if_true]
  by_cases c1 : r.toNat < 0x80
  · omega
  rw [if_neg c1]
  by_cases c2 : r.toNat < 0x800
  · rw [if_pos c2]
    exact ⟨[_, _], rfl, by simp, by simp, fun x hx => (Option.some.inj hx) ▸ hlast⟩
  rw [if_neg c2]
  by_cases c3 : r.toNat < 0x10000
  · rw [if_pos c3]
    exact ⟨[_, _, _], rfl, by simp, by simp, fun x hx => (Option.some.inj hx) ▸ hlast⟩
  rw [if_neg c3]
  exact ⟨[_, _, _, _], rfl, by simp, by simp, fun x hx => (Option.some.inj hx) ▸ hlast⟩

theorem decodeN_hi (n b0 b1 b2 b3 : Nat) (hn : 1 ≤ n) (h : 128 ≤ b0) (h0 : b0 < 256) :
    128 ≤ (decodeN n b0 b1 b2 b3).1 ∧ (decodeN n b0 b1 b2 b3).1 ≤ 1114111 ∧ 1 ≤ (decodeN n b0 b1 b2 b3).2 ∧ (decodeN n b0 b1 b2 b3).2 ≤ n ∧ (decodeN n b0 b1 b2 b3).2 ≤ 4 ∧
    (2 ≤ (decodeN n b0 b1 b2 b3).2 → 128 ≤ b1) ∧ (3 ≤ (decodeN n b0 b1 b2 b3).2 → 128 ≤ b2) ∧ (4 ≤ (decodeN n b0 b1 b2 b3).2 → 128 ≤ b3) ∧
    ((decodeN n b0 b1 b2 b3).1 < 55296 ∨ 57344 ≤ (decodeN n b0 b1 b2 b3).1) := by
  unfold decodeN
  rw [if_neg (by omega)]
  repeat' split
  all_goals (simp only; omega)

set_option maxHeartbeats 1000000 in
set_option maxRecDepth 1000000 in
/-- The replacement rune: a range over the two blanks. -/
theorem indexRune_err (w : World) :
    Calls Tryd.prog 22 #[.string ⟨#[32, 9]⟩, .int .i32 65533] w fun e w' => e = .returned (.int .i64 (-1)) ∧ Below w.heap.size w w' := by
  go_enter Tryd.func22, Tryd.ntmps22
  go_wp2_with fail
  go_loopg [5, 6] 2 (fun g _ _ wx => ∃ i : Nat, i + g = 2 ∧ wx = w.iter ⟨#[32, 9]⟩ i)
  case atStart => exact ⟨0, by omega, rfl⟩
  case round =>
    obtain ⟨i, hig, rfl⟩ := hrel
    cases gk with
    | zero =>
      obtain rfl : i = 2 := by omega
      have hnx := fun ty => run_next_end (P := Tryd.prog) w ⟨#[32, 9]⟩ 2 ty (by decide)
      go_wp2
      go_ret
      exact ⟨rfl, (Below.refl _ _).alloc (Nat.le_refl _) _⟩
    | succ g =>
      by_cases h1 : i = 0
      · subst h1
        have hnx := fun ty => run_next_ascii (P := Tryd.prog) w ⟨#[32, 9]⟩ 0 ty (by decide) (by decide)
        go_wp2
        go_roundg g
        case measure => omega
        case rel => exact ⟨1, by omega, rfl⟩
      · obtain rfl : i = 1 := by omega
        have hnx := fun ty => run_next_ascii (P := Tryd.prog) w ⟨#[32, 9]⟩ 1 ty (by decide) (by decide)
        go_wp2
        go_roundg g
        case measure => omega
        case rel => exact ⟨2, by omega, rfl⟩

theorem validRune_yes (r : Int) (w : World) (h0 : 128 ≤ r) (h1 : r ≤ 1114111) (hv : r < 55296 ∨ 57344 ≤ r) :
    Calls Tryd.prog 28 #[.int .i32 r] w fun e w' => e = .returned (.bool true) ∧ w' = w := by
  rcases hv with h | h
  all_goals
    go_enter Tryd.func28, Tryd.ntmps28
    go_wp2
    go_ret
    exact ⟨rfl, rfl⟩

theorem quiet_same2 {P : Program} {f : FuncId} {args : Array Value} {w : World} {k n : Nat} {v : Value}
    (h : Calls P f args (w.drewN (k + n)) fun e w' => e = .returned v ∧ w' = w.drewN (k + n)) : Calls P f args (w.drewN (k + n)) fun e w'' => e = .returned v ∧ ∃ m, w'' = w.drewN (k + m) :=
  h.mono fun _ _ ⟨he, hm⟩ => ⟨he, n, hm⟩
theorem indexByte27 (s : ByteArray) (c : Int) (w : World) : Calls Tryd.prog 27 #[.string s, .int .u8 c] w fun e w' => e = .returned (.int .i64 (Lib.indexByte s.data.toList c.toNat.toUInt8)) ∧ w' = w :=
  Any.strings_IndexByte (ρ := Tryd.lays153_ren) { Tryd.lays153 with } s c w
set_option maxHeartbeats 400000 in
set_option maxRecDepth 1000000 in
theorem indexRune_def (s : ByteArray) (r : Int) (rs : ByteArray) (w : World) (hs2 : s.size = 2) (h9 : ∀ h, (s[1]'h).toNat < 128) (h0 : 128 ≤ r) (h1 : r ≤ 1114111) (hv : r < 55296 ∨ 57344 ≤ r) (hne : (r == 65533) = false) (hen : Utf8.encode r = rs) (h2 : 2 ≤ rs.size) (h4 : rs.size ≤ 4) (hl : ∀ h, 128 ≤ (rs[rs.size - 1]'h).toNat) :
    Calls Tryd.prog 22 #[.string s, .int .i32 r] w fun e w' => e = .returned (.int .i64 (-1)) ∧ Below w.heap.size w w' := by
  have hvr := validRune_yes r w h0 h1 hv
  clear hv
  go_enter Tryd.func22, Tryd.ntmps22
  go_wp2_with (go_at_call 28; refine hvr.mono ?_; rintro e w' ⟨rfl, rfl⟩)
  clear hvr
  go_step3
  go_wp2_with fail
  go_loop [9] (fun i => i = .int .i64 (rs.size - 1 : Nat)) (fun _ => 0)
  case atStart => go_num
  case round =>
    subst hrel
    have hw2 : IntKind.i64.wrap 2 = 2 := by decide
    by_cases hs : rs.size = 2
    · have h9 : (((s[1]'(by omega)).toNat : Int) != ((rs[1]'(by omega)).toNat : Int)) = true := by
        have h5 := hl (by omega)
        have h6 := h9 (by omega)
        have e : (rs[rs.size - 1]'(by omega)) = (rs[1]'(by omega)) := by congr 1; omega
        rw [e] at h5
        rw [bne_iff_ne]
        omega
      go_wp2_with fail
      go_step3
      go_wp2_with fail
      go_quiet (fail)
      go_wp2_with fail
      go_quiet ((go_at_call 27; exact quiet_same2 (indexByte27 _ _ _)))
      have hib : ∀ c, Lib.indexByte (s.extract 2 2).data.toList c = -1 := by
        intro c
        have : (s.extract 2 2).data.toList = [] := by simp
        rw [this]; rfl
      go_wp2
      rw [Exit.noGoto_ret]
      go_wp2
      rw [Exit.noGoto_ret]
      go_ret
      exact ⟨rfl, below_drewN (Below.refl _ _) _⟩
    · go_wp2_with fail
      go_ret
      exact ⟨rfl, Below.refl _ _⟩

/-- A rune beyond ASCII is not among the two blanks. -/
theorem indexRune_hi (r : Int) (w : World) (h0 : 128 ≤ r) (h1 : r ≤ 1114111) (hv : r < 55296 ∨ 57344 ≤ r) :
    Calls Tryd.prog 22 #[.string ⟨#[32, 9]⟩, .int .i32 r] w fun e w' => e = .returned (.int .i64 (-1)) ∧ Below w.heap.size w w' := by
  by_cases he : r = 65533
  · subst he; exact indexRune_err w
  · obtain ⟨l, hl, h2, h4, hx⟩ := encode_hi r h0 h1 hv
    have hsz : (⟨l.toArray⟩ : ByteArray).size = l.length := Lib.size_mk l
    refine indexRune_def _ r ⟨l.toArray⟩ w rfl (fun h => by clear h0 h1 hv he hl h2 h4 hx hsz; revert h; decide) h0 h1 hv (by simpa using he) hl (by omega) (by omega) (fun h => hx _ ?_)
    rw [← Lib.getElem_mk l _ (by omega), hsz]

/-- Where the lead byte is beyond ASCII, all that the decoder takes is. -/
theorem decode_hi (s : ByteArray) (i : Nat) (hi : i < s.size) (h : 128 ≤ (s[i]'hi).toNat) :
    128 ≤ (Utf8.decode s i).1 ∧ (Utf8.decode s i).1 ≤ 1114111 ∧ ((Utf8.decode s i).1 < 55296 ∨ 57344 ≤ (Utf8.decode s i).1) ∧ 1 ≤ (Utf8.decode s i).2 ∧ i + (Utf8.decode s i).2 ≤ s.size ∧
    ∀ (j : Nat) b, i ≤ j → j < i + (Utf8.decode s i).2 → s.data.toList[j]? = some b → 128 ≤ b.toNat := by
  have g : ∀ k (hk : k < s.size), s.get! k = s[k]'hk := fun k hk => by
    simp [ByteArray.get!, getElem!_pos, hk]
    rfl
  have hb0 : 128 ≤ (s.get! i).toNat := by rw [g i hi]; exact h
  obtain ⟨h1, h2, h3, h4, h5, h6, h7, h8, h9⟩ := decodeN_hi (s.size - i) (s.get! i).toNat (s.get! (i + 1)).toNat (s.get! (i + 2)).toNat (s.get! (i + 3)).toNat (by omega) hb0 (UInt8.toNat_lt _)
  rw [decode_at]
  refine ⟨h1, h2, h9, h3, by omega, fun j b hj1 hj2 hb => ?_⟩
  generalize (decodeN (s.size - i) (s.get! i).toNat (s.get! (i + 1)).toNat (s.get! (i + 2)).toNat (s.get! (i + 3)).toNat) = d at *
  have hj : j < s.size := by omega
  have e : b = s.get! j := by
    rw [g j hj]
    have := Lib.data_getElem? s j hj
    rw [this] at hb
    exact (Option.some.inj hb).symm
  rw [e]
  obtain rfl | rfl | rfl | rfl : j = i ∨ j = i + 1 ∨ j = i + 2 ∨ j = i + 3 := by omega
  · exact hb0
  · exact h6 (by omega)
  · exact h7 (by omega)
  · exact h8 (by omega)

theorem noAny_hi {l : List UInt8} {i k : Nat} (h : Lib.NoAny l [32, 9] i) (hk : ∀ (j : Nat) b, i ≤ j → j < i + k → l[j]? = some b → 128 ≤ b.toNat) : Lib.NoAny l [32, 9] (i + k) := fun j b hj hb => by
  by_cases hji : j < i
  · exact h j b hji hb
  · have := hk j b (by omega) hj hb
    have h1 : b ≠ 32 := fun e => by rw [e] at this; revert this; decide
    have h2 : b ≠ 9 := fun e => by rw [e] at this; revert this; decide
    simp [h1, h2]

theorem indexRune_lo (r : Int) (w : World) (h0 : 0 ≤ r) (h1 : r < 128) : Calls Tryd.prog 22 #[.string ⟨#[32, 9]⟩, .int .i32 r] w fun e w' => e = .returned (.int .i64 (Lib.indexByte [32, 9] r.toNat.toUInt8)) ∧ w' = w :=
  Any.strings_IndexRune_ascii (ρ := Tryd.lays153_ren) { Tryd.lays153 with } ⟨#[32, 9]⟩ r w h0 h1
theorem useSet (n : Int) (w : World) : Calls Tryd.prog 23 #[.int .i64 n] w fun e w' => e = .returned (.bool (decide (8 < n))) ∧ w' = w :=
  Any.strings_shouldUseASCIISet (ρ := Tryd.lays153_ren) { Tryd.lays153 with } n w

set_option maxHeartbeats 1000000 in
set_option maxRecDepth 1000000 in
/-- strings.IndexAny over the two blanks at a string of at most 8 bytes, of whatever bytes. -/
theorem indexAny_short (s : ByteArray) (w : World) (h8 : s.size ≤ 8) :
    Calls Tryd.prog 17 #[.string s, .string ⟨#[32, 9]⟩] w fun e w' => e = .returned (.int .i64 (Lib.indexAny s.data.toList [32, 9])) ∧ Below w.heap.size w w' := by
  have h8z : decide ((8 : Int) < (s.size : Int)) = false := decide_eq_false (by omega)
  go_enter Tryd.func17, Tryd.ntmps17
  go_wp2_with (go_at_call 23; refine (useSet _ _).mono ?_; rintro e w' ⟨rfl, hw⟩; rw [hw, h8z])
  go_loopg [9, 10] s.size (fun g _ _ wx => ∃ i : Nat, i ≤ s.size ∧ s.size ≤ i + g ∧ wx.heap[w.heap.size]? = some (.stringIter s i) ∧ Below w.heap.size w wx ∧ Lib.NoAny s.data.toList [32, 9] i)
  case atStart => exact ⟨0, by omega, by omega, World.iter_heap _ _ _, (Below.refl _ _).alloc (Nat.le_refl _) _, Lib.NoAny.zero _ _⟩
  case round =>
    obtain ⟨i, hi0, hig, hit, hbw, hno⟩ := hrel
    have HN : Aside (Lib.NoAny s.data.toList [32, 9] i) := hno
    have HB : Aside (Below w.heap.size w wr) := hbw
    clear hno hbw
    have hlt : w.heap.size < wr.heap.size := (Array.getElem?_eq_some_iff.1 hit).1
    have HL : Aside (w.heap.size < wr.heap.size) := hlt
    by_cases hi : i < s.size
    · have hnx := fun ty => Lib.run_next_any_at (P := Tryd.prog) wr w.heap.size s i ty hit hi
      have hit2 := Lib.iterAt_heap wr w.heap.size s i (i + (Utf8.decode s i).2) hit
      have hz := Lib.iterAt_size wr w.heap.size s (i + (Utf8.decode s i).2)
      have HI : Aside ((wr.iterAt w.heap.size s (i + (Utf8.decode s i).2)).heap[w.heap.size]? = some (.stringIter s (i + (Utf8.decode s i).2)) ∧ (wr.iterAt w.heap.size s (i + (Utf8.decode s i).2)).heap.size = wr.heap.size) := ⟨hit2, hz⟩
      clear hit hit2 hz hlt
      obtain ⟨x, hx⟩ : ∃ x : UInt8, s[i]'hi = x := ⟨_, rfl⟩
      have hxl : s.data.toList[i]? = some x := by rw [← hx]; exact Lib.data_getElem? s i hi
      by_cases hx128 : x.toNat < 128
      · have hd := decode_ascii s i hi (by rw [hx]; exact hx128)
        rw [hd] at hnx HI
        rw [hx] at hnx
        clear hd hx
        have Hx : Aside (s.data.toList[i]? = some x) := hxl
        clear hxl
        have hcon := Lib.contains_iff_indexByte [32, 9] x
        have hback : ((x.toNat : Int)).toNat.toUInt8 = x := by simp
        cases hin : [32, 9].contains x
        · rw [hin] at hcon
          have hlt : ¬ ((0 : Int) ≤ Lib.indexByte [32, 9] x) := of_decide_eq_false hcon.symm
          clear hcon
          have HC : Aside ([32, 9].contains x = false) := hin
          clear hin
          go_wp2_with (go_at_call 22; refine (indexRune_lo _ _ (by omega) (by omega)).mono ?_; rintro e w' ⟨rfl, hw⟩; rw [hw, hback])
          go_roundg (gk - 1)
          case measure => omega
          case rel => exact ⟨i + 1, by omega, by omega, HI.out.1, Lib.below_iterAt HB.out (Nat.le_refl _) _ _, HN.out.succ Hx.out HC.out⟩
        · rw [hin] at hcon
          have hge : (0 : Int) ≤ Lib.indexByte [32, 9] x := of_decide_eq_true hcon.symm
          clear hcon
          have HC : Aside ([32, 9].contains x = true) := hin
          clear hin
          go_wp2_with (go_at_call 22; refine (indexRune_lo _ _ (by omega) (by omega)).mono ?_; rintro e w' ⟨rfl, hw⟩; rw [hw, hback])
          go_ret
          exact ⟨by rw [Lib.indexAny_hit HN.out Hx.out HC.out]; rfl, Lib.below_iterAt HB.out (Nat.le_refl _) _ _⟩
      · have hd := decode_hi s i hi (by rw [hx]; omega)
        obtain ⟨d1, d2, d3, d4, d5, d6⟩ := hd
        have HD : Aside (Lib.NoAny s.data.toList [32, 9] (i + (Utf8.decode s i).2)) := noAny_hi HN.out d6
        clear d6 hx hxl
        generalize Utf8.decode s i = d at *
        obtain ⟨dr, dk⟩ := d
        simp only at hnx HI d1 d2 d3 d4 d5 HD
        go_wp2_with (go_at_call 22; refine (indexRune_hi _ _ (by omega) (by omega) (by omega)).mono ?_; rintro e w' ⟨rfl, hw⟩)
        have hsz2 := HI.out.2
        have hbk := hw.block w.heap.size (by rw [hsz2]; exact HL.out)
        go_roundg (gk - 1)
        case measure => omega
        case rel => exact ⟨i + dk, by omega, by omega, hbk.trans HI.out.1, (Lib.below_iterAt HB.out (Nat.le_refl _) s (i + dk)).trans (hw.mono (by rw [hsz2]; exact Nat.le_of_lt HL.out)), HD.out⟩
    · have hnx := fun ty => Lib.run_next_end_at (P := Tryd.prog) wr w.heap.size s i ty hit hi
      clear hit hlt
      obtain rfl : i = s.size := by omega
      go_wp2
      go_ret
      exact ⟨by rw [Lib.indexAny_none (by rw [← Lib.size_eq]; exact HN.out)]; rfl, HB.out⟩

/-- strings.IndexAny over the two blanks, at every string. -/
theorem indexAny_any (s : ByteArray) (w : World) (hs : s.size < 4294967281) :
    Calls Tryd.prog 17 #[.string s, .string ⟨#[32, 9]⟩] w fun e w' => e = .returned (.int .i64 (Lib.indexAny s.data.toList [32, 9])) ∧ Below w.heap.size w w' := by
  by_cases h8 : s.size ≤ 8
  · exact indexAny_short s w h8
  · have h116 : (Tryd.prog.info? (Tryd.lays153_ren.t 116)).map (fun i => (i.zero, i.size)) = some (some (.agg (Array.replicate 256 (.bool false))), 256) := by kernel_rfl
    refine (Any.strings_IndexAny_long Tryd.lays153 (zero_of_info h116).1 (zero_of_info h116).2 s ⟨#[32, 9]⟩ w (by decide) (by omega) hs (by decide) (ascii_of_all (by decide))).mono fun e w' ⟨h1, h2⟩ => ⟨h1, ?_⟩
    rw [h2]
    exact ((Below.refl _ _).alloc (Nat.le_refl _) _).alloc (by simp) _

/-- strings.TrimLeft over the two blanks, at every string. -/
theorem trimLeft_any (s : ByteArray) (w : World) :
    Calls Tryd.prog 16 #[.string s, .string ⟨#[32, 9]⟩] w fun e w' => e = .returned (.string ⟨(Lib.trimLeftS s.data.toList [32, 9]).toArray⟩) ∧ Below w.heap.size w w' :=
  Any.strings_TrimLeft_laid Tryd.lays161 (by kernel_rfl) s ⟨#[32, 9]⟩ w (by decide) (ascii_of_all (by decide))
end Go.Proofs.Qxb6002703aDoor
