/-
  buildWire: the labels' wire form.
-/
import Derived.Test.Qxb6003357aDoorUtoa
import Derived.Lib.BufferRead
import Derived.Lib.IndexBytes
namespace Go.Proofs.Qxb6003357aDoor
open Go.RowKit

/-- A slice of the strings ss at address p. -/
def SAt (w : World) (p : Option Addr) (ss : List ByteArray) : Prop := ss ≠ [] → ∃ b o, p = some ⟨b, o, none⟩ ∧ ∀ (i : Nat) s, ss[i]? = some s → w.cell? ⟨b, o + i, none⟩ = some (.string s)

theorem SAt.below {w w' : World} {p : Option Addr} {ss : List ByteArray} (h : SAt w p ss) (hb : Below w.heap.size w w') : SAt w' p ss := fun hl => by
  obtain ⟨b, o, rfl, hc⟩ := h hl
  exact ⟨b, o, rfl, fun i x hx => (hb.cell (p := ⟨b, o + i, none⟩) (World.block_lt_of_cell? _ _ (hc i x hx))).trans (hc i x hx)⟩
theorem SAt.at {w : World} {p : Option Addr} {ss : List ByteArray} (h : SAt w p ss) {k : Nat} (hk : k < ss.length) : ∃ b o s, p = some ⟨b, o, none⟩ ∧ ss[k]? = some s ∧ w.cell? ⟨b, o + k, none⟩ = some (.string s) := by
  obtain ⟨b, o, hp, hc⟩ := h (fun e => by rw [e] at hk; simp at hk)
  exact ⟨b, o, _, hp, List.getElem?_eq_getElem hk, hc _ _ (List.getElem?_eq_getElem hk)⟩

/-- The slice v, made by the call itself, holds the values xs. -/
structure Own (w wr : World) (B e : Nat) (v : Value) (xs : List Value) : Prop where
  own : wr.ownsRow B e 1 v xs.length xs
  below : Below B w wr
  size : B ≤ wr.heap.size

theorem Own.push {w wr w1 : World} {B e m : Nat} {v v' x : Value} {xs ys : List Value} {o : Obj} (h : Own w wr B e v xs) (h1 : w1.ownsRow B e 1 v' m ys) (hy : ys = xs ++ [x]) (hg : (wr.alloc o).grownBy w1 v.ownBlock) : Own w w1 B e v' (xs ++ [x]) := by
  have hz := h.size
  have e0 : (wr.alloc o).heap.size = wr.heap.size + 1 := by simp
  have hb : Below B w w1 := (h.below.alloc h.size o).grown hg (by omega) (fun k hk => (h.own.lt k hk).1)
  have h2 : Below B (wr.alloc o) w1 := (Below.refl _ _).grown hg (by omega) (fun k hk => (h.own.lt k hk).1)
  have h3 := h2.size
  have hm : m = ys.length := by have := h1.1; omega
  subst hy
  subst hm
  exact ⟨h1, hb, by omega⟩
theorem Own.form {w wr : World} {B e : Nat} {v : Value} {xs : List Value} (h : Own w wr B e v xs) (hne : xs ≠ []) : ∃ g cap, v = .slice (some ⟨g, 0, none⟩) xs.length cap ∧ B ≤ g ∧ ∀ j u, xs[j]? = some u → wr.cell? ⟨g, j, none⟩ = some u := by
  rcases h.own.2 with ⟨_, h0⟩ | ⟨g, cap, cur, rfl, hB, _⟩
  · exact absurd (List.eq_nil_of_length_eq_zero h0) hne
  · refine ⟨g, cap, rfl, hB, fun j u hu => ?_⟩
    have := h.own.cells (g := g) rfl j u hu
    by_cases hj : j = 0
    · subst hj; simpa [Addr.add] using this
    · simpa [Addr.add, hj] using this

abbrev bv (b : UInt8) : Value := .int .u8 (b.toNat : Int)
def lab (l : ByteArray) : List UInt8 := UInt8.ofNat l.size :: l.data.toList
def wireF (ls : List ByteArray) : List UInt8 := ls.flatMap lab

theorem wireF_take {ls : List ByteArray} {k : Nat} {s : ByteArray} (h : ls[k]? = some s) : wireF (ls.take (k + 1)) = wireF (ls.take k) ++ UInt8.ofNat s.size :: s.data.toList := by
  unfold wireF
  rw [List.take_add_one, h]
  simp [lab]
theorem wireF_len (ls : List ByteArray) (h : ∀ (i : Nat) (s : ByteArray), ls[i]? = some s → s.size ≤ 63) : (wireF ls).length ≤ 64 * ls.length := by
  unfold wireF
  induction ls with
  | nil => simp
  | cons l ls ih =>
    have h1 := h 0 l rfl
    have h2 := ih (fun i s hs => h (i + 1) s (by simpa using hs))
    have h3 : l.data.toList.length = l.size := by simp
    simp only [List.flatMap_cons, List.length_append, lab, List.length_cons]
    omega

theorem info5 : (Tryd.prog.info? 5).map (fun i => (i.zero, i.size, i.bytes)) = some (some (.int .u8 0), 1, 1) := by kernel_rfl
theorem info9 : (Tryd.prog.info? 9).map (fun i => (i.zero, i.size, i.bytes)) = some (some (.string ⟨#[]⟩), 1, 16) := by kernel_rfl

set_option maxHeartbeats 2000000 in
set_option maxRecDepth 100000 in
theorem wire_any (p : Option Addr) (n c : Nat) (ls : List ByteArray) (w : World) (hl : ls.length = n) (hp : SAt w p ls) (hs : ∀ (i : Nat) (s : ByteArray), ls[i]? = some s → s.size ≤ 63) (hn : n ≤ 5) (hn0 : 0 < n) :
    Calls Tryd.prog 13 #[.slice p n c] w fun e w' => e = .returned (.string ⟨(wireF ls).toArray⟩) ∧ Below w.heap.size w w' := by
  obtain ⟨i0, hi, hz0, hz1, hz2⟩ := info_parts info5
  have HL : Hid (ls.length = n) := hl
  have HP : Hid (SAt w p ls) := hp
  have HS : Hid (∀ (i : Nat) (s : ByteArray), ls[i]? = some s → s.size ≤ 63) := hs
  clear hl hp hs
  go_enter Tryd.func13, Tryd.ntmps13
  go_wp2_with fail
  go_loopg [3, 4] n (fun g v i wx => ∃ k : Nat, k ≤ n ∧ n ≤ k + g ∧ i = .int .i64 k ∧ Hid (Own w wx w.heap.size 5 v ((wireF (ls.take k)).map bv)))
  case atStart => exact ⟨0, by omega, by omega, rfl, World.ownsRow_nil _ _ _ _, Below.refl _ _, Nat.le_refl _⟩
  case round =>
    obtain ⟨k, hk, hg, rfl, HO⟩ := hrel
    obtain ⟨G, rfl⟩ : ∃ G, G = gk := ⟨gk, rfl⟩
    by_cases hlt : k < n
    · obtain ⟨b, o, s, hpa, hs, hc0⟩ := HP.out.at (k := k) (by rw [HL.out]; exact hlt)
      subst hpa
      have hss := HS.out k s hs
      have hc : wr.cell? ⟨b, o + k, none⟩ = some (.string s) := (HO.out.below.cell (p := ⟨b, o + k, none⟩) (World.block_lt_of_cell? _ _ hc0)).trans hc0
      have HLen : Hid ((wireF (ls.take k)).length ≤ 320) := by
        have := wireF_len (ls.take k) (fun i s hs => HS.out i s (by rw [List.getElem?_take] at hs; split at hs; exact hs; cases hs))
        have h2 : (ls.take k).length ≤ 5 := by rw [List.length_take]; omega
        show _ ≤ _
        omega
      have HT : Hid (wireF (ls.take (k + 1)) = wireF (ls.take k) ++ UInt8.ofNat s.size :: s.data.toList) := wireF_take hs
      clear hs hc0
      go_wp2_with (at_builtin; refine wpList_append_own _ rfl (.tmp 17) (.tmp 21) 39 rfl w.heap.size 5 i0 (.int .u8 0) 1 1 Tryd.underlying39 hi hz0 hz1 hz2 rfl (by decide) _ _ _ rfl (HO.out.own.alloc _) ⟨wr.heap.size, 0, none⟩ 1 1 [.int .u8 (s.size : Int)] rfl rfl ?c1 ?c2 ?c3 ?c4 ?c5 ?_)
      case c1 =>
        intro j u hj
        match j, hj with
        | 0, hj => simp at hj; subst hj; simp [Addr.add]
      case c2 => intro u hu; simp at hu; subst hu; rfl
      case c3 => have := HLen.out; simp only [List.length_map]; unfold maxLen; omega
      case c4 => have := HLen.out; simp only [List.length_map]; omega
      case c5 => have := HO.out.size; simp; omega
      intro v1 w1 hown1 hgrow1 _
      have hb1 : bv (UInt8.ofNat s.size) = .int .u8 (s.size : Int) := by
        unfold bv
        rw [UInt8.toNat_ofNat', Nat.mod_eq_of_lt (by omega)]
      have HO1 : Hid (Own w w1 w.heap.size 5 v1 ((wireF (ls.take k) ++ [UInt8.ofNat s.size]).map bv)) := by
        rw [List.map_append]
        simp only [List.map_cons, List.map_nil, hb1]
        exact HO.out.push hown1 rfl hgrow1
      clear hown1 hgrow1 hb1 HO hc
      go_wp2_with fail
      go_loopg [3, 6] s.size (fun g v i wx => ∃ j : Nat, j ≤ s.size ∧ s.size ≤ j + g ∧ i = .int .i64 j ∧ Hid (Own w wx w.heap.size 5 v ((wireF (ls.take k) ++ UInt8.ofNat s.size :: s.data.toList.take j).map bv)))
      case atStart => exact ⟨0, by omega, by omega, rfl, by simpa using HO1⟩
      case round =>
        obtain ⟨j, hj, hgj, rfl, HO2⟩ := hrel
        by_cases hjt : j < s.size
        · have hjs : s.data.toList[j]? = some s[j] := by
            rw [List.getElem?_eq_getElem (by simpa using hjt)]; rfl
          have HT2 : Hid (s.data.toList.take (j + 1) = s.data.toList.take j ++ [s[j]]) := by
            show _ = _
            rw [List.take_add_one, hjs]; rfl
          clear hjs
          go_wp2_with (at_builtin; refine wpList_append_own _ rfl (.tmp 29) (.tmp 33) 39 rfl w.heap.size 5 i0 (.int .u8 0) 1 1 Tryd.underlying39 hi hz0 hz1 hz2 rfl (by decide) _ _ _ rfl (HO2.out.own.alloc _) ⟨wr.heap.size, 0, none⟩ 1 1 [bv s[j]] rfl rfl ?d1 ?d2 ?d3 ?d4 ?d5 ?_)
          case d1 =>
            intro j u hj
            match j, hj with
            | 0, hj => simp at hj; subst hj; simp [Addr.add]
          case d2 => intro u hu; simp at hu; subst hu; rfl
          case d3 =>
            have := HLen.out
            have h2 : (s.data.toList.take j).length ≤ 63 := by rw [List.length_take]; omega
            simp only [List.length_map, List.length_append, List.length_cons]; unfold maxLen; omega
          case d4 =>
            have := HLen.out
            have h2 : (s.data.toList.take j).length ≤ 63 := by rw [List.length_take]; omega
            simp only [List.length_map, List.length_append, List.length_cons]; omega
          case d5 => have := HO2.out.size; simp; omega
          intro v2 w2 hown2 hgrow2 _
          have HO3 : Hid (Own w w2 w.heap.size 5 v2 ((wireF (ls.take k) ++ UInt8.ofNat s.size :: s.data.toList.take (j + 1)).map bv)) := by
            rw [HT2.out]
            have e : (wireF (ls.take k) ++ UInt8.ofNat s.size :: (s.data.toList.take j ++ [s[j]])).map bv = (wireF (ls.take k) ++ UInt8.ofNat s.size :: s.data.toList.take j).map bv ++ [bv s[j]] := by simp
            rw [e]
            exact HO2.out.push hown2 (by simp) hgrow2
          clear hown2 hgrow2 HO2 HT2
          go_wp2
          go_roundg (gk - 1)
          case measure => omega
          case rel => exact ⟨j + 1, by omega, by omega, by go_num, HO3⟩
        · have HO3 : Hid (Own w wr w.heap.size 5 u3 ((wireF (ls.take (k + 1))).map bv)) := by
            have e0 : s.data.toList.length = s.size := by simp
            have e : s.data.toList.take j = s.data.toList := List.take_of_length_le (by omega)
            rw [HT.out, ← e]; exact HO2
          clear HO2
          go_wp2
          go_roundg (G - 1)
          case measure => omega
          case rel => exact ⟨k + 1, by omega, by omega, by go_num, HO3⟩
    · have hkn : k = n := by omega
      have ht : ls.take k = ls := List.take_of_length_le (by rw [HL.out]; omega)
      rw [ht] at HO
      have hne : (wireF ls).map bv ≠ [] := by
        intro h
        have h0 : ls.length = n := HL.out
        cases ls with
        | nil => simp at h0; omega
        | cons l ls => simp [wireF, lab] at h
      obtain ⟨g, cap, hv, hB, hcs⟩ := HO.out.form hne
      obtain ⟨N, hN⟩ : ∃ N, N = ((wireF ls).map bv).length := ⟨_, rfl⟩
      rw [← hN] at hv
      subst hv
      have hby : Lib.Bytes wr g 0 ⟨(wireF ls).toArray⟩ := fun i hi => by
        have hi' : i < (wireF ls).length := by simpa [ByteArray.size] using hi
        rw [Nat.zero_add]
        exact hcs i _ (by rw [List.getElem?_map, List.getElem?_eq_getElem hi']; rfl)
      have hcv := Lib.run_convert_whole (P := Tryd.prog) wr 39 5 9 Tryd.underlying39 Tryd.underlying5 Tryd.underlying9 g 0 ⟨(wireF ls).toArray⟩ hby cap
      have hsz : (ByteArray.mk (wireF ls).toArray).size = ((wireF ls).map bv).length := by simp [ByteArray.size]
      rw [hsz, ← hN] at hcv
      have HB := HO.out.below
      clear hby hcs HO hsz hN
      go_wp2
      go_ret
      exact ⟨rfl, HB⟩
end Go.Proofs.Qxb6003357aDoor
