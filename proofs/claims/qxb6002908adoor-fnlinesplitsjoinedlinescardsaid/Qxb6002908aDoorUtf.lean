/-
  Plain facts on UTF-8: what a decoder takes beyond ASCII; what an encoder makes. No Go in this text.
-/
import Derived.Lib.DecodeN
import Derived.Lib.IndexAny
import Derived.Lib.Index
import Derived.Lib.Strings
namespace Go.Proofs.Qxb6002908aDoor
open Go Go.Lib

theorem encode_hi (r : Int) (h0 : 128 ≤ r) (h1 : r ≤ 1114111) (hv : r < 55296 ∨ 57344 ≤ r) :
    ∃ l : List UInt8, (Utf8.encode r) = ⟨l.toArray⟩ ∧ 2 ≤ l.length ∧ l.length ≤ 4 ∧ ∀ x, l[l.length - 1]? = some x → 128 ≤ x.toNat := by
  have hval : Utf8.valid r = true := by simp [Utf8.valid]; omega
  have hlast : (128 : Nat) ≤ (UInt8.ofNat (0x80 + r.toNat % 64)).toNat := by
    rw [UInt8.toNat_ofNat', Nat.mod_eq_of_lt (by omega)]; omega
  unfold Utf8.encode
  simp only [hval, if_true]
  by_cases c1 : r.toNat < 0x80
  · omega
  rw [if_neg c1]
  by_cases c2 : r.toNat < 0x800
  · rw [if_pos c2]
    exact ⟨[_, _], rfl, by simp, by simp, fun x hx => (Option.some.inj hx) ▸ hlast⟩
  rw [if_neg c2]
  by_cases c3 : r.toNat < 0x10000
  · rw [if_pos c3]
    exact ⟨[_, _, _], rfl, by simp, by simp, fun x hx => (Option.some.inj hx) ▸ hlast⟩
  rw [if_neg c3]
  exact ⟨[_, _, _, _], rfl, by simp, by simp, fun x hx => (Option.some.inj hx) ▸ hlast⟩

theorem decodeN_hi (n b0 b1 b2 b3 : Nat) (hn : 1 ≤ n) (h : 128 ≤ b0) (h0 : b0 < 256) :
    128 ≤ (decodeN n b0 b1 b2 b3).1 ∧ (decodeN n b0 b1 b2 b3).1 ≤ 1114111 ∧ 1 ≤ (decodeN n b0 b1 b2 b3).2 ∧ (decodeN n b0 b1 b2 b3).2 ≤ n ∧ (decodeN n b0 b1 b2 b3).2 ≤ 4 ∧
    (2 ≤ (decodeN n b0 b1 b2 b3).2 → 128 ≤ b1) ∧ (3 ≤ (decodeN n b0 b1 b2 b3).2 → 128 ≤ b2) ∧ (4 ≤ (decodeN n b0 b1 b2 b3).2 → 128 ≤ b3) ∧
    ((decodeN n b0 b1 b2 b3).1 < 55296 ∨ 57344 ≤ (decodeN n b0 b1 b2 b3).1) := by
  unfold decodeN
  rw [if_neg (by omega)]
  repeat' split
  all_goals (simp only; omega)

/-- Where the lead byte is beyond ASCII, all that the decoder takes is. -/
theorem decode_hi (s : ByteArray) (i : Nat) (hi : i < s.size) (h : 128 ≤ (s[i]'hi).toNat) :
    128 ≤ (Utf8.decode s i).1 ∧ (Utf8.decode s i).1 ≤ 1114111 ∧ ((Utf8.decode s i).1 < 55296 ∨ 57344 ≤ (Utf8.decode s i).1) ∧ 1 ≤ (Utf8.decode s i).2 ∧ i + (Utf8.decode s i).2 ≤ s.size ∧
    ∀ (j : Nat) b, i ≤ j → j < i + (Utf8.decode s i).2 → s.data.toList[j]? = some b → 128 ≤ b.toNat := by
  have g : ∀ k (hk : k < s.size), s.get! k = s[k]'hk := fun k hk => by
    simp [ByteArray.get!, getElem!_pos, hk]
    rfl
  have hb0 : 128 ≤ (s.get! i).toNat := by rw [g i hi]; exact h
  obtain ⟨h1, h2, h3, h4, h5, h6, h7, h8, h9⟩ := decodeN_hi (s.size - i) (s.get! i).toNat (s.get! (i + 1)).toNat (s.get! (i + 2)).toNat (s.get! (i + 3)).toNat (by omega) hb0 (UInt8.toNat_lt _)
  rw [decode_at]
  refine ⟨h1, h2, h9, h3, by omega, fun j b hj1 hj2 hb => ?_⟩
  generalize (decodeN (s.size - i) (s.get! i).toNat (s.get! (i + 1)).toNat (s.get! (i + 2)).toNat (s.get! (i + 3)).toNat) = d at *
  have hj : j < s.size := by omega
  have e : b = s.get! j := by
    rw [g j hj]
    have := Lib.data_getElem? s j hj
    rw [this] at hb
    exact (Option.some.inj hb).symm
  rw [e]
  obtain rfl | rfl | rfl | rfl : j = i ∨ j = i + 1 ∨ j = i + 2 ∨ j = i + 3 := by omega
  · exact hb0
  · exact h6 (by omega)
  · exact h7 (by omega)
  · exact h8 (by omega)


theorem noAny_hi {l : List UInt8} {i k : Nat} (h : Lib.NoAny l [13, 10] i) (hk : ∀ (j : Nat) b, i ≤ j → j < i + k → l[j]? = some b → 128 ≤ b.toNat) : Lib.NoAny l [13, 10] (i + k) := fun j b hj hb => by
  by_cases hji : j < i
  · exact h j b hji hb
  · have := hk j b (by omega) hj hb
    have h1 : b ≠ 13 := fun e => by rw [e] at this; revert this; decide
    have h2 : b ≠ 10 := fun e => by rw [e] at this; revert this; decide
    simp [h1, h2]

/-- A rune that the decoder took from k bytes (and that is not the replacement rune of a bad byte) is encoded in k bytes. -/
theorem decodeN_width (n b0 b1 b2 b3 : Nat) (h0 : 128 ≤ b0) (h1 : b0 < 256) (hne : (decodeN n b0 b1 b2 b3).1 ≠ 65533) :
    ((decodeN n b0 b1 b2 b3).2 = 2 ∧ (decodeN n b0 b1 b2 b3).1 < 2048) ∨ ((decodeN n b0 b1 b2 b3).2 = 3 ∧ 2048 ≤ (decodeN n b0 b1 b2 b3).1 ∧ (decodeN n b0 b1 b2 b3).1 < 65536) ∨ ((decodeN n b0 b1 b2 b3).2 = 4 ∧ 65536 ≤ (decodeN n b0 b1 b2 b3).1) := by
  unfold decodeN at hne ⊢
  rw [if_neg (by omega)] at hne ⊢
  repeat' split at hne
  all_goals (first | (exfalso; exact hne rfl) | skip)
  all_goals (simp only [*, if_true, and_self] at *)
  all_goals (try simp_all)
  all_goals omega

theorem encode_size (r : Int) (h0 : 128 ≤ r) (h1 : r ≤ 1114111) (hv : r < 55296 ∨ 57344 ≤ r) : (Utf8.encode r).size = if r < 2048 then 2 else if r < 65536 then 3 else 4 := by
  have hval : Utf8.valid r = true := by simp [Utf8.valid]; omega
  unfold Utf8.encode
  simp only [hval, if_true]
  rw [if_neg (by omega)]
  by_cases c2 : r < 2048
  · rw [if_pos (by omega), if_pos c2]; rfl
  rw [if_neg (by omega), if_neg c2]
  by_cases c3 : r < 65536
  · rw [if_pos (by omega), if_pos c3]; rfl
  rw [if_neg (by omega), if_neg c3]; rfl

/-- What is encoded beyond ASCII does not occur in CR LF, and is not CR LF. -/
theorem index_crlf (r : Int) (h0 : 128 ≤ r) (h1 : r ≤ 1114111) (hv : r < 55296 ∨ 57344 ≤ r) : Lib.index [13, 10] (Utf8.encode r).data.toList = -1 ∧ ([13, 10] == (Utf8.encode r).data.toList) = false := by
  obtain ⟨l, hl, h2, h4, hx⟩ := encode_hi r h0 h1 hv
  rw [hl]
  obtain ⟨x, hlx⟩ : ∃ x, l[l.length - 1]? = some x := ⟨_, List.getElem?_eq_getElem (by omega)⟩
  have hx8 := hx x hlx
  have hmem : x ∈ l := List.mem_of_getElem? hlx
  have hno : x ∉ ([13, 10] : List UInt8) := by
    intro h
    simp at h
    rcases h with h | h <;> (rw [h] at hx8; revert hx8; decide)
  refine ⟨index_none fun j _ => ?_, ?_⟩
  · cases ho : occAt [13, 10] l j with
    | false => rfl
    | true =>
      exfalso
      unfold occAt at ho
      have hp := List.isPrefixOf_iff_prefix.1 ho
      exact hno (List.mem_of_mem_drop (hp.subset hmem))
  · rw [beq_eq_false_iff_ne]
    intro h
    exact hno (by rw [h]; exact hmem)
end Go.Proofs.Qxb6002908aDoor
