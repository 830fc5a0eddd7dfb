/-
  bytes.IndexAny over CR LF, at every slice of bytes.
-/
import Derived.Test.Qxb6002908aDoorLay
import Derived.Test.Qxb6002908aDoorUtf
import Derived.Test.Qxb6002908aDoorSmall
import Derived.Lib.IndexEntry
import Derived.Laws.RangeAny
import Derived.Lib.OthersKept
import Derived.Lib.TrimByte
import Derived.Deep.LoopGhost
import Derived.WalkSmall
namespace Go.Proofs.Qxb6002908aDoor
open Go.RowKit Go.Shelf Go.Lib

/-- The library's variables that the road reads. -/
def Libs (w : World) : Prop := Lib.Utf8Tabs (Tryd.lays32_ren.g 2) (Tryd.lays32_ren.g 3) w ∧ ∃ m, w.cell? ⟨0, 0, none⟩ = some (.int .i64 m)
theorem Libs.below {w w' : World} (h : Libs w) (hb : Below w.heap.size w w') : Libs w' := by
  obtain ⟨h1, m, h2⟩ := h
  exact ⟨Utf8Tabs_below h1 hb, m, (hb.cell (p := ⟨0, 0, none⟩) (World.block_lt_of_cell? _ _ h2)).trans h2⟩

theorem call15 (c : Int) (w : World) : (callFunc 15 #[.string ⟨#[13, 10]⟩, .int .u8 c]).run Tryd.prog w = .ok (.value (.int .i64 (Lib.indexByte [13, 10] c.toNat.toUInt8))) w := by
  rw [run_callFunc_extern Tryd.func15 (by kernel_rfl) (by kernel_rfl) (by kernel_rfl) (e := Extern.BytealgIndexByte.indexByte) (by kernel_rfl), Lib.run_indexByteString]
  rfl
theorem call21 (r : Int) (w : World) (m : Int) (hm : w.cell? ⟨0, 0, none⟩ = some (.int .i64 m)) (h2 : 2 ≤ (Utf8.encode r).size) (hb : ((Utf8.encode r).size : Int) ≤ m) :
    (callFunc 21 #[.string ⟨#[13, 10]⟩, .string (Utf8.encode r)]).run Tryd.prog w = .ok (.value (.int .i64 (Lib.index [13, 10] (Utf8.encode r).data.toList))) w := by
  rw [run_callFunc_extern Tryd.func21 (by kernel_rfl) (by kernel_rfl) (by kernel_rfl) (e := Extern.BytealgIndex.index) (by kernel_rfl), Lib.run_indexString ⟨#[13, 10]⟩ (Utf8.encode r) w 0 m (by kernel_rfl) hm h2 hb (by decide)]
  rfl

set_option maxHeartbeats 400000 in
theorem useSet (n : Int) (w : World) : Calls Tryd.prog 17 #[.int .i64 n] w fun e w' => e = .returned (.bool (decide (8 < n))) ∧ w' = w := by
  go_enter Tryd.func17, Tryd.ntmps17
  go_wp2
  go_ret
  exact ⟨rfl, rfl⟩

theorem lend_index (x : UInt8) : lend x = decide (0 ≤ Lib.indexByte [13, 10] x) := Lib.contains_iff_indexByte [13, 10] x

theorem next0 (w : World) (ty : TypeId) : (Instr.next (.pointer (some ⟨w.heap.size, 0, none⟩)) true ty).run Tryd.prog (w.iter ⟨#[13, 10]⟩ 0) = .ok (.tuple #[.bool true, .int .i64 0, .int .i32 13]) (w.iter ⟨#[13, 10]⟩ 1) :=
  run_next_ascii (P := Tryd.prog) w ⟨#[13, 10]⟩ 0 ty (by decide) (by decide)
theorem next1 (w : World) (ty : TypeId) : (Instr.next (.pointer (some ⟨w.heap.size, 0, none⟩)) true ty).run Tryd.prog (w.iter ⟨#[13, 10]⟩ 1) = .ok (.tuple #[.bool true, .int .i64 1, .int .i32 10]) (w.iter ⟨#[13, 10]⟩ 2) :=
  run_next_ascii (P := Tryd.prog) w ⟨#[13, 10]⟩ 1 ty (by decide) (by decide)

theorem any_one (x : UInt8) : Lib.indexAny [x] [13, 10] = if lend x then 0 else -1 := by
  show (if [13, 10].contains x then 0 else _) = _
  show (if lend x then 0 else _) = _
  cases lend x <;> rfl

set_option maxHeartbeats 1000000 in
set_option maxRecDepth 1000000 in
/-- One byte. -/
theorem idx_one (b o c : Nat) (x : UInt8) (w : World) (hc : w.cell? ⟨b, o, none⟩ = some (.int .u8 (x.toNat : Int))) :
    Calls Tryd.prog 14 #[.slice (some ⟨b, o, none⟩) 1 c, .string ⟨#[13, 10]⟩] w fun e w' => e = .returned (.int .i64 (Lib.indexAny [x] [13, 10])) ∧ Below w.heap.size w w' := by
  have h15 := call15
  have hback : ((x.toNat : Int)).toNat.toUInt8 = x := by simp
  rw [any_one]
  by_cases hx : x.toNat < 128
  · have hli := lend_index x
    cases hin : lend x
    · rw [hin] at hli
      have hlt : ¬ ((0 : Int) ≤ Lib.indexByte [13, 10] x) := of_decide_eq_false hli.symm
      clear hli hin
      go_enter Tryd.func14, Tryd.ntmps14
      go_wp2
      go_ret
      exact ⟨rfl, Below.refl _ _⟩
    · rw [hin] at hli
      have hlt : (0 : Int) ≤ Lib.indexByte [13, 10] x := of_decide_eq_true hli.symm
      clear hli hin
      go_enter Tryd.func14, Tryd.ntmps14
      go_wp2
      go_ret
      exact ⟨rfl, Below.refl _ _⟩
  · have hin : lend x = false := by
      rw [lend_iff]
      simp; omega
    rw [hin]
    have hx' : (128 : Int) ≤ (x.toNat : Int) := by omega
    have hx2 : (x.toNat : Int) < 256 := by have := UInt8.toNat_lt x; omega
    clear hin h15 hx
    go_enter Tryd.func14, Tryd.ntmps14
    go_wp2_with fail
    go_loopg [5] 2 (fun g _ wx => ∃ i : Nat, i + g = 2 ∧ wx = w.iter ⟨#[13, 10]⟩ i)
    case atStart => exact ⟨0, by omega, rfl⟩
    case round =>
      obtain ⟨i, hig, rfl⟩ := hrel
      cases gk with
      | zero =>
        obtain rfl : i = 2 := by omega
        have hnx := fun ty => run_next_end (P := Tryd.prog) w ⟨#[13, 10]⟩ 2 ty (by decide)
        go_wp2
        go_ret
        exact ⟨rfl, (Below.refl _ _).alloc (Nat.le_refl _) _⟩
      | succ g =>
        by_cases h1 : i = 0
        · subst h1
          have hnx := fun ty => run_next_ascii (P := Tryd.prog) w ⟨#[13, 10]⟩ 0 ty (by decide) (by decide)
          go_wp2
          go_roundg g
          case measure => omega
          case rel => exact ⟨1, by omega, rfl⟩
        · obtain rfl : i = 1 := by omega
          have hnx := fun ty => run_next_ascii (P := Tryd.prog) w ⟨#[13, 10]⟩ 1 ty (by decide) (by decide)
          go_wp2
          go_roundg g
          case measure => omega
          case rel => exact ⟨2, by omega, rfl⟩

/-- No byte. -/
theorem idx_zero (p : Option Addr) (c : Nat) (w : World) :
    Calls Tryd.prog 14 #[.slice p 0 c, .string ⟨#[13, 10]⟩] w fun e w' => e = .returned (.int .i64 (-1)) ∧ Below w.heap.size w w' := by
  go_enter Tryd.func14, Tryd.ntmps14
  go_wp2_with (go_at_call 17; refine (useSet _ _).mono ?_; rintro e w' ⟨rfl, hw⟩; rw [hw])
  go_loop [12] (fun i => i = .int .i64 0) (fun _ => 0)
  case atStart => rfl
  case round =>
    subst hrel
    go_wp2
    go_ret
    exact ⟨rfl, Below.refl _ _⟩

theorem get_eq (s : ByteArray) (k : Nat) (hk : k < s.size) : s.get! k = s[k]'hk := by
  simp [ByteArray.get!, getElem!_pos, hk]
  rfl

theorem dec_at (l : List UInt8) (b o cap k : Nat) (w : World) (hL : Libs w) (hc : ∀ (i : Nat) x, l[i]? = some x → w.cell? ⟨b, o + i, none⟩ = some (.int .u8 (x.toNat : Int))) :
    Calls Tryd.prog 20 #[.slice (some ⟨b, o + k, none⟩) (l.length - k) cap] w fun e w' => e = .returned (.tuple #[.int .i32 (Lib.decodeGo ⟨(l.drop k).toArray⟩).1, .int .i64 (Lib.decodeGo ⟨(l.drop k).toArray⟩).2]) ∧ Below w.heap.size w w' := by
  have hsz : (⟨(l.drop k).toArray⟩ : ByteArray).size = l.length - k := by rw [Lib.size_mk, List.length_drop]
  have c := Any7.utf8_DecodeRune Tryd.lays32 ⟨(l.drop k).toArray⟩ b (o + k) cap w hL.1 (fun j hj => by
    rw [hsz] at hj
    have hj2 : k + j < l.length := by omega
    have h1 : (⟨(l.drop k).toArray⟩ : ByteArray).get! j = l[k + j] := by
      have h2 : j < (⟨(l.drop k).toArray⟩ : ByteArray).size := by omega
      rw [get_eq _ j h2]
      have h4 := Lib.getElem_mk (l.drop k) j h2
      rw [List.getElem?_drop, List.getElem?_eq_getElem hj2] at h4
      exact (Option.some.inj h4).symm
    rw [h1, Nat.add_assoc]
    exact hc _ _ (List.getElem?_eq_getElem hj2))
  rw [hsz] at c
  exact c

/-- What the decoder gives beyond ASCII, in the words of the loop. -/
theorem dec_hi (l : List UInt8) (k : Nat) (x : UInt8) (hx : l[k]? = some x) (h8 : 128 ≤ x.toNat) (hno : Lib.NoAny l [13, 10] k) :
    128 ≤ (Lib.decodeGo ⟨(l.drop k).toArray⟩).1 ∧ (Lib.decodeGo ⟨(l.drop k).toArray⟩).1 ≤ 1114111 ∧ ((Lib.decodeGo ⟨(l.drop k).toArray⟩).1 < 55296 ∨ 57344 ≤ (Lib.decodeGo ⟨(l.drop k).toArray⟩).1) ∧ 1 ≤ (Lib.decodeGo ⟨(l.drop k).toArray⟩).2 ∧ k + (Lib.decodeGo ⟨(l.drop k).toArray⟩).2 ≤ l.length ∧
    Lib.NoAny l [13, 10] (k + (Lib.decodeGo ⟨(l.drop k).toArray⟩).2) ∧
    ((Lib.decodeGo ⟨(l.drop k).toArray⟩).1 ≠ 65533 → (Utf8.encode ((Lib.decodeGo ⟨(l.drop k).toArray⟩).1 : Nat)).size = (Lib.decodeGo ⟨(l.drop k).toArray⟩).2) := by
  have hk : k < l.length := (List.getElem?_eq_some_iff.1 hx).1
  have hsz : (⟨(l.drop k).toArray⟩ : ByteArray).size = l.length - k := by rw [Lib.size_mk, List.length_drop]
  have h0 : 0 < (⟨(l.drop k).toArray⟩ : ByteArray).size := by omega
  have hx0 : (⟨(l.drop k).toArray⟩ : ByteArray)[0]'h0 = x := by
    have h4 := Lib.getElem_mk (l.drop k) 0 h0
    rw [List.getElem?_drop, Nat.add_zero, hx] at h4
    exact (Option.some.inj h4).symm
  have e : Lib.decodeGo ⟨(l.drop k).toArray⟩ = Utf8.decode ⟨(l.drop k).toArray⟩ 0 := by
    unfold Lib.decodeGo
    rw [if_neg (by omega)]
  rw [e]
  obtain ⟨d1, d2, d3, d4, d5, d6⟩ := decode_hi ⟨(l.drop k).toArray⟩ 0 h0 (by rw [hx0]; exact h8)
  refine ⟨d1, d2, d3, d4, by omega, noAny_hi hno fun j b hj1 hj2 hb => ?_, fun hne => ?_⟩
  · refine d6 (j - k) b (by omega) (by omega) ?_
    show (l.drop k)[j - k]? = some b
    rw [List.getElem?_drop, show k + (j - k) = j by omega]
    exact hb
  · rw [encode_size _ (by omega) (by omega) (by omega)]
    have hg : 128 ≤ ((⟨(l.drop k).toArray⟩ : ByteArray).get! 0).toNat := by rw [get_eq _ 0 h0, hx0]; exact h8
    have hw := decodeN_width ((⟨(l.drop k).toArray⟩ : ByteArray).size - 0) ((⟨(l.drop k).toArray⟩ : ByteArray).get! 0).toNat ((⟨(l.drop k).toArray⟩ : ByteArray).get! (0 + 1)).toNat ((⟨(l.drop k).toArray⟩ : ByteArray).get! (0 + 2)).toNat ((⟨(l.drop k).toArray⟩ : ByteArray).get! (0 + 3)).toNat hg (UInt8.toNat_lt _) (by rw [← Lib.decode_at]; exact hne)
    rw [← Lib.decode_at] at hw
    generalize Utf8.decode ⟨(l.drop k).toArray⟩ 0 = d at *
    rcases hw with ⟨h1, h2⟩ | ⟨h1, h2, h3⟩ | ⟨h1, h2⟩
    · rw [if_pos (by omega)]; omega
    · rw [if_neg (by omega), if_pos (by omega)]; omega
    · rw [if_neg (by omega), if_neg (by omega)]; omega

end Go.Proofs.Qxb6002908aDoor
