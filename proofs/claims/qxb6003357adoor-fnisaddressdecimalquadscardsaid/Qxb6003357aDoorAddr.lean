/-
  isAddress over a name made of labels.
-/
import Derived.Test.Qxb6003357aDoorLabels
import Derived.Test.Qxb6003357aDoorLay
namespace Go.Proofs.Qxb6003357aDoor
open Go.RowKit

def digits10 : List UInt8 := [48, 49, 50, 51, 52, 53, 54, 55, 56, 57]
def allDig (s : ByteArray) : Bool := s.data.toList.all digit

theorem digit_mem (b : UInt8) : digits10.contains b = digit b := by
  have h : ∀ n, n < 256 → digits10.contains (UInt8.ofNat n) = digit (UInt8.ofNat n) := by decide +kernel
  have := h b.toNat (UInt8.toNat_lt b)
  rwa [UInt8.ofNat_toNat] at this

theorem trim_digits {s : ByteArray} (h : allDig s = true) : Lib.trimS s.data.toList digits10 = [] := by
  have hr : Lib.trimRightS s.data.toList digits10 = [] := by
    rw [Lib.trimRightS_take s.data.toList digits10 0 (Nat.zero_le _) (fun j b _ hb => by
      rw [digit_mem]; exact List.all_eq_true.1 h b (List.mem_of_getElem? hb)) (fun b hb => absurd hb (Nat.lt_irrefl _))]
    rfl
  unfold Lib.trimS
  rw [hr]; rfl
theorem trim_any (s : ByteArray) (w : World) (hs : s.size ≤ 63) :
    Calls Tryd.prog 25 #[.string s, .string ⟨#[48, 49, 50, 51, 52, 53, 54, 55, 56, 57]⟩] w fun e w' => e = .returned (.string ⟨(Lib.trimS s.data.toList digits10).toArray⟩) ∧ Below w.heap.size w w' :=
  Any.strings_Trim_laid Tryd.lays160 (by kernel_rfl) s ⟨#[48, 49, 50, 51, 52, 53, 54, 55, 56, 57]⟩ w (by omega) (by decide) (ascii_of_all (by decide))

set_option maxHeartbeats 2000000 in
set_option maxRecDepth 100000 in
theorem addr_any (ls : List ByteArray) (x : ByteArray) (w : World) (hx : x = ⟨(wireF ls).toArray⟩) (hs : ∀ (i : Nat) (s : ByteArray), ls[i]? = some s → s.size ≤ 63) (hn : ls.length ≤ 5) (hne : ls ≠ []) :
    Calls Tryd.prog 21 #[.agg #[.string x]] w fun e w' => (∃ v : Bool, e = .returned (.bool v) ∧ (ls.all allDig = true → v = decide (ls.length = 4)) ∧ (ls.length ≠ 4 → v = false)) ∧ Below w.heap.size w w' := by
  have hlab := fun w' => labels_any ls x w' hx hs hn hne
  have HS : Hid (∀ (i : Nat) (s : ByteArray), ls[i]? = some s → s.size ≤ 63) := hs
  obtain ⟨n, hn1⟩ : ∃ n, n = ls.length := ⟨_, rfl⟩
  rw [← hn1] at hlab ⊢
  have HL : Hid (n = ls.length) := hn1
  have hn5 : n ≤ 5 := by omega
  clear hx hs hn hne hn1
  go_enter Tryd.func21, Tryd.ntmps21
  go_wp2_with fail
  refine (hlab _).mono ?_
  rintro e w1 ⟨p, c, rfl, hp1, hb1⟩
  have HP1 : Hid (SAt w1 p ls) := hp1
  have HB1 : Hid (Below (w.heap.size + 1) (w.alloc (Obj.cells #[.string x] 27)) w1) := by
    have h := hb1
    simp only [World.size_alloc] at h
    exact h
  clear hp1 hb1 hlab
  go_wp2_with fail
  go_loopg [10] n (fun g i wx => ∃ k : Nat, k ≤ n ∧ n ≤ k + g ∧ i = .int .i64 k ∧ Hid (Below w1.heap.size w1 wx))
  case atStart => exact ⟨0, by omega, by omega, rfl, Below.refl _ _⟩
  case round =>
    obtain ⟨k, hk, hg, rfl, HB2⟩ := hrel
    by_cases hlt : k < n
    · obtain ⟨b, o, s, hpa, hs, hc0⟩ := HP1.out.at (k := k) (by rw [← HL.out]; exact hlt)
      subst hpa
      have hss := HS.out k s hs
      have hc : wr.cell? ⟨b, o + k, none⟩ = some (.string s) := (HB2.out.cell (p := ⟨b, o + k, none⟩) (World.block_lt_of_cell? _ _ hc0)).trans hc0
      have ht := fun w' => trim_any s w' hss
      obtain ⟨T, hT⟩ : ∃ T : ByteArray, T = ⟨(Lib.trimS s.data.toList digits10).toArray⟩ := ⟨_, rfl⟩
      rw [← hT] at ht
      have HT : Hid (T = ⟨(Lib.trimS s.data.toList digits10).toArray⟩) := hT
      have HSk : Hid (ls[k]? = some s) := hs
      clear hc0 hs hT
      by_cases hT0 : T = ⟨#[]⟩
      · subst hT0
        go_wp2_with fail
        refine (ht _).mono ?_
        rintro e w2 ⟨rfl, hb2⟩
        have HB3 : Hid (Below w1.heap.size w1 w2) := HB2.out.trans (hb2.mono HB2.out.size)
        clear hb2 HB2 ht
        go_wp2
        go_roundg (gk - 1)
        case measure => omega
        case rel => exact ⟨k + 1, by omega, by omega, by go_num, HB3⟩
      · have hd : allDig s ≠ true := fun h => hT0 (by rw [HT.out, trim_digits h])
        have hemp : T.toList.isEmpty = false := by
          rw [ByteArray.toList_eq]
          cases hl : T.data.toList with
          | nil => exact absurd (ByteArray.ext (Array.toList_inj.1 hl)) hT0
          | cons a l => rfl
        go_wp2_with fail
        refine (ht _).mono ?_
        rintro e w2 ⟨rfl, hb2⟩
        have HB3 : Hid (Below w1.heap.size w1 w2) := HB2.out.trans (hb2.mono HB2.out.size)
        clear hb2 HB2 ht
        go_wp2
        go_ret
        have hb : Below w.heap.size w w2 := (((Below.refl _ _).alloc (Nat.le_refl _) _).trans (HB1.out.mono (by omega))).trans (HB3.out.mono (by have := HB1.out.size; simp at this; omega))
        refine ⟨⟨false, rfl, fun hall => absurd (List.all_eq_true.1 hall s (List.mem_of_getElem? HSk.out)) hd, fun _ => rfl⟩, hb⟩
    · go_wp2
      go_ret
      have hb : Below w.heap.size w wr := (((Below.refl _ _).alloc (Nat.le_refl _) _).trans (HB1.out.mono (by omega))).trans (HB2.out.mono (by have := HB1.out.size; simp at this; omega))
      refine ⟨⟨_, rfl, fun _ => ?_, fun h4 => ?_⟩, hb⟩
      · rw [Bool.eq_iff_iff]; simp; omega
      · simp; omega

theorem zzaddr_any (ls : List ByteArray) (x : ByteArray) (w : World) (hx : x = ⟨(wireF ls).toArray⟩) (hs : ∀ (i : Nat) (s : ByteArray), ls[i]? = some s → s.size ≤ 63) (hn : ls.length ≤ 5) (hne : ls ≠ []) :
    Calls Tryd.prog 14 #[.agg #[.string x]] w fun e w' => (∃ v : Bool, e = .returned (.bool v) ∧ (ls.all allDig = true → v = decide (ls.length = 4)) ∧ (ls.length ≠ 4 → v = false)) ∧ Below w.heap.size w w' := by
  have ha := fun w' => addr_any ls x w' hx hs hn hne
  clear hx hs hn hne
  go_enter Tryd.func14, Tryd.ntmps14
  go_wp2_with fail
  refine (ha _).mono ?_
  rintro e w1 ⟨⟨v, rfl, h1, h2⟩, hb⟩
  have HH : Hid ((ls.all allDig = true → v = decide (ls.length = 4)) ∧ (ls.length ≠ 4 → v = false)) := ⟨h1, h2⟩
  clear h1 h2 ha
  go_wp2
  go_ret
  exact ⟨⟨v, rfl, HH.out⟩, ((Below.refl _ _).alloc (Nat.le_refl _) _).trans (hb.mono (by simp))⟩
end Go.Proofs.Qxb6003357aDoor
