/-
  What the law's own walk leans on.
-/
import Derived.Test.Qxb6600273aDoorZz
import Derived.Lib.SlBytesRow
import Derived.Lib.BufferRead
import Derived.Lib.AppendStr
namespace Go.Proofs.Qxb6600273aDoor
open Go.Shelf Go.RowKit
variable {code agent date : ByteArray} {wd : Bool}

theorem tl_take {ps : List ByteArray} {k : Nat} {t : ByteArray} (h : ps[k]? = some t) : tl code agent date wd (ps.take (k + 1)) = tl code agent date wd (ps.take k) ++ 44 :: 32 :: item code agent date wd t := by
  unfold tl
  rw [List.take_add_one, h]
  simp
theorem hdr_take0 {ps : List ByteArray} {t : ByteArray} (h : ps[0]? = some t) : hdr code agent date wd (ps.take (0 + 1)) = hdr code agent date wd (ps.take 0) ++ item code agent date wd t := by
  cases ps with
  | nil => cases h
  | cons a l => cases h; simp [hdr, tl]
theorem hdr_take1 {ps : List ByteArray} {k : Nat} {t : ByteArray} (hk : 0 < k) (h : ps[k]? = some t) : hdr code agent date wd (ps.take (k + 1)) = hdr code agent date wd (ps.take k) ++ 44 :: 32 :: item code agent date wd t := by
  cases ps with
  | nil => cases h
  | cons a l =>
    obtain ⟨j, rfl⟩ : ∃ j, k = j + 1 := ⟨k - 1, by omega⟩
    rw [List.take_succ_cons, List.take_succ_cons]
    simp only [hdr]
    rw [tl_take (by simpa using h)]
    simp

theorem quo_len (t : ByteArray) : (quo t).length ≤ 2 * t.size + 2 := by
  have h1 := esc_len t.data.toList
  have h2 : t.data.toList.length = t.size := by simp
  simp only [quo, List.length_cons, List.length_append, List.length_nil]
  omega
theorem item_len (hc : code.size ≤ 21) (ha : agent.size ≤ 1048576) (hd : date.size ≤ 1048576) (t : ByteArray) (ht : t.size ≤ 1048576) : (item code agent date wd t).length ≤ 8388000 := by
  have h1 := quo_len t
  have h2 := quo_len date
  have e1 : code.data.toList.length = code.size := by simp
  have e2 : agent.data.toList.length = agent.size := by simp
  have h3 : (dat date wd).length ≤ 2 * date.size + 3 := by
    unfold dat; split <;> simp <;> omega
  simp only [item, List.length_cons, List.length_append]
  omega
theorem hdr_len (hc : code.size ≤ 21) (ha : agent.size ≤ 1048576) (hd : date.size ≤ 1048576) : ∀ (ps : List ByteArray), (∀ s ∈ ps, s.size ≤ 1048576) → (hdr code agent date wd ps).length ≤ 8388608 * ps.length
  | [], _ => by simp [hdr]
  | t :: l, h => by
    have h1 := item_len (wd := wd) hc ha hd t (h t (by simp))
    have h2 : ∀ (l : List ByteArray), (∀ s ∈ l, s.size ≤ 1048576) → (tl code agent date wd l).length ≤ 8388608 * l.length := by
      intro l
      induction l with
      | nil => intro _; simp [tl]
      | cons a l ih =>
        intro hl
        have g1 := item_len (wd := wd) hc ha hd a (hl a (by simp))
        have g2 := ih (fun s hs => hl s (by simp [hs]))
        simp only [tl, List.flatMap_cons, List.length_append, List.length_cons] at g2 ⊢
        omega
    have h3 := h2 l (fun s hs => h s (by simp [hs]))
    simp only [hdr, List.length_append, List.length_cons]
    omega

theorem own_conv {w0 w : World} {B : Nat} {v : Value} {l : List UInt8} (h : Own w0 w B 5 v (l.map bv)) : (convert 24 9 v).run Tryd.prog w = .ok (.string (mk l)) w := by
  rcases h.own.2 with ⟨hv, h0⟩ | ⟨g, cap, cur, hv, _⟩
  · have hl : l = [] := by simpa using List.eq_nil_of_length_eq_zero h0
    subst hl
    rw [hv]
    exact Lib.run_convert_nil_bytes w 24 9 5 0 Tryd.underlying24 Tryd.underlying5 Tryd.underlying9
  · have hby : Lib.Bytes w g 0 (mk l) := fun i hi => by
      have hi' : i < l.length := by simpa [ByteArray.size] using hi
      have := h.own.cells (g := g) (by rw [hv]; rfl) i (bv l[i]) (by rw [List.getElem?_map, List.getElem?_eq_getElem hi']; rfl)
      rw [Nat.zero_add]
      show w.cell? ⟨g, i, none⟩ = some (bv l[i])
      by_cases hj : i = 0
      · subst hj; simpa [Addr.add] using this
      · simpa [Addr.add, hj] using this
    have := Lib.run_convert_whole (P := Tryd.prog) w 24 5 9 Tryd.underlying24 Tryd.underlying5 Tryd.underlying9 g 0 (mk l) hby cap
    rw [hv]
    rw [mk_size] at this
    rw [List.length_map]
    exact this

theorem GoodCode.par {cs : ByteArray} (h : GoodCode cs) (h0 : agent.size ≠ 0) (hno : ∀ b ∈ agent.data.toList, b ≠ 32) : Par cs agent := by
  have hall : ∀ b ∈ cs.data.toList, 48 ≤ b.toNat := by
    intro b hb
    obtain ⟨i, hi, he⟩ := List.mem_iff_getElem.1 hb
    have hi' : i < cs.size := by simpa using hi
    have := h.dig i hi'
    have e : cs[i] = b := by rw [← he]; rfl
    rw [e] at this
    exact this.1
  refine ⟨by rw [h.three]; decide, fun b hb e => ?_, fun b hb => ⟨fun e => ?_, fun e => ?_⟩, h0, hno⟩
  · have := hall b hb; rw [e] at this; exact absurd this (by decide)
  · have := hall b (List.mem_of_head? hb); rw [e] at this; exact absurd this (by decide)
  · have := hall b (List.mem_of_head? hb); rw [e] at this; exact absurd this (by decide)
theorem BadCode.par {cs : ByteArray} (h : BadCode cs) (h0 : agent.size ≠ 0) (hno : ∀ b ∈ agent.data.toList, b ≠ 32) : Par cs agent := by
  have hall : ∀ b ∈ cs.data.toList, 45 ≤ b.toNat := by
    intro b hb
    rcases h.chars b hb with hd | rfl
    · have := of_decide_eq_true hd; omega
    · decide
  refine ⟨h.ne, fun b hb e => ?_, fun b hb => ⟨fun e => ?_, fun e => ?_⟩, h0, hno⟩
  · have := hall b hb; rw [e] at this; exact absurd this (by decide)
  · have := hall b (List.mem_of_head? hb); rw [e] at this; exact absurd this (by decide)
  · have := hall b (List.mem_of_head? hb); rw [e] at this; exact absurd this (by decide)
theorem BadCode.warn {cs : ByteArray} (h : BadCode cs) (w : World) : Calls Tryd.prog 14 #[.string cs] w fun e w' => e = .returned (.bool false) ∧ w' = w := by
  by_cases h3 : cs.size = 3
  · rcases h.bad with hb | ⟨h0, hb⟩
    · exact absurd h3 hb
    · exact warn_minus cs w h3 hb
  · exact warn_len cs w h3

theorem code_bad (c : Int) (w : World) (h1 : -9223372036854775808 ≤ c) (h2 : c ≤ 9223372036854775807) (hb : c < 0 ∨ 999 < c) :
    Calls Tryd.prog 6 #[.int .i64 c] w fun e w' => ∃ v cs, e = .returned v ∧ CodeRow w w' v cs ∧ BadCode cs := by
  rcases hb with hb | hb
  · obtain ⟨m, rfl⟩ : ∃ m : Nat, c = -(m : Int) := ⟨c.natAbs, by omega⟩
    exact code_neg m w (by omega) (by omega)
  · obtain ⟨m, rfl⟩ : ∃ m : Nat, c = (m : Int) := ⟨c.toNat, by omega⟩
    exact code_pos m w (by omega) (by omega)

/-- append of a string's bytes onto a row of the call's own. -/
theorem wpList_pushS {ops : Array Oper} {rest : List Oper} {o : Oper} {a : Act} {Q : Exit → Act → World → Prop} {w0 w1 : World} {B : Nat} {v : Value} {l : List UInt8} (h : Own w0 w1 B 5 v (l.map bv)) (s : ByteArray) (hlen : l.length + s.size ≤ 70368744177664)
    (hgd : o.guard = none) (p q : Operand) (ho : o.op = .call { callee := .builtin .append, args := #[p, q], argTypes := #[24, 9] }) (hp : a.eval p = v) (hq : a.eval q = .string s)
    (hK : ∀ v' w2, Hid (Own w0 w2 B 5 v' ((l ++ s.data.toList).map bv)) → wpList Tryd.prog ops Q rest (a.put o.dst v') w2) : wpList Tryd.prog ops Q (o :: rest) a w1 := by
  obtain ⟨i0, hi, hz0, hz1, hz2⟩ := info_parts info5
  refine Lib.wpList_append_own_string _ hgd p q 24 9 ho B 5 i0 Tryd.underlying24 Tryd.underlying9 hi hz0 hz1 hz2 v _ (l.map bv) hp h.own s hq ?_ ?_ h.size ?_
  · rw [List.length_map]; unfold maxLen; omega
  · rw [List.length_map]; omega
  · intro v' w2 hown hgrow _
    refine hK v' w2 ?_
    rw [List.map_append]
    exact h.grow (Below.refl _ _) hown rfl hgrow

/-! ### ZZparseTexts, in three forms -/
theorem parse8_good (hP : Par code agent) (hg : GoodCode code) (ps : List ByteArray) (n : Nat) (x : ByteArray) (w : World) (hx : x = mk (hdr code agent date wd ps)) (hlen : x.size ≤ 35184372088832) (hn : ps.length = n) (hn2 : n ≤ 65536) :
    Calls Tryd.prog 8 #[.string x] w fun e w' => ∃ p c, e = .returned (.tuple #[.slice p n c, .bool true]) ∧ SAt w' p ps ∧ Below w.heap.size w w' := by
  have h := parse_ok (date := date) (wd := wd) hP hg.three hg.dig ps n x w (by rw [hx, mk_list]) hlen hn hn2
  refine (zzparse_any (R := fun v w' => ∃ p c, v = .tuple #[.slice p n c, .bool true] ∧ SAt w' p ps ∧ Below w.heap.size w w') w (h.mono ?_)).mono ?_
  · rintro e w' ⟨p, c, rfl, h1, h2⟩
    exact ⟨_, _, rfl, p, c, rfl, h1, h2⟩
  · rintro e w' ⟨v1, v2, rfl, p, c, hv, h1, h2⟩
    exact ⟨p, c, by rw [hv], h1, h2⟩
theorem good000 : GoodCode (mk [48, 48, 48]) := ⟨rfl, fun i hi => by
  match i, hi with
  | 0, _ => show 48 ≤ (48 : UInt8).toNat ∧ (48 : UInt8).toNat ≤ 57; decide
  | 1, _ => show 48 ≤ (48 : UInt8).toNat ∧ (48 : UInt8).toNat ≤ 57; decide
  | 2, _ => show 48 ≤ (48 : UInt8).toNat ∧ (48 : UInt8).toNat ≤ 57; decide⟩
theorem parse8_zero (w : World) : Calls Tryd.prog 8 #[.string (mk [])] w fun e w' => ∃ p c, e = .returned (.tuple #[.slice p 0 c, .bool true]) ∧ Below w.heap.size w w' := by
  refine (parse8_good (code := mk [48, 48, 48]) (agent := mk [48]) (date := mk []) (wd := false) (good000.par (by rw [mk_size]; decide) (by intro b hb; simp at hb; subst hb; decide)) good000 [] 0 (mk []) w rfl (by rw [mk_size]; decide) rfl (by omega)).mono ?_
  rintro e w' ⟨p, c, h1, _, h3⟩
  exact ⟨p, c, h1, h3⟩
theorem parse8_bad (hP : Par code agent) (hg : BadCode code) (ps : List ByteArray) (x : ByteArray) (w : World) (hx : x = mk (hdr code agent date wd ps)) (hlen : x.size ≤ 35184372088832) (hne : ps ≠ []) :
    Calls Tryd.prog 8 #[.string x] w fun e w' => e = .returned (.tuple #[.slice none 0 0, .bool false]) ∧ Below w.heap.size w w' := by
  cases ps with
  | nil => exact absurd rfl hne
  | cons t l =>
    have h := parse_bad (date := date) (wd := wd) hP hg.warn t l x w (by rw [hx, mk_list]) hlen
    refine (zzparse_any (R := fun v w' => v = .tuple #[.slice none 0 0, .bool false] ∧ Below w.heap.size w w') w (h.mono ?_)).mono ?_
    · rintro e w' ⟨rfl, h2⟩
      exact ⟨_, _, rfl, rfl, h2⟩
    · rintro e w' ⟨v1, v2, rfl, hv, h2⟩
      exact ⟨by rw [hv], h2⟩
end Go.Proofs.Qxb6600273aDoor
