/-
  The built header, in plain words; TrimLeft at its pieces.
-/
import Derived.Test.Qxb6600273aDoorUnq
namespace Go.Proofs.Qxb6600273aDoor
open Go.Shelf Go.RowKit

/-- A slice of the strings ss at address p. -/
def SAt (w : World) (p : Option Addr) (ss : List ByteArray) : Prop := ss ≠ [] → ∃ b o, p = some ⟨b, o, none⟩ ∧ ∀ (i : Nat) s, ss[i]? = some s → w.cell? ⟨b, o + i, none⟩ = some (.string s)

theorem SAt.below {w w' : World} {p : Option Addr} {ss : List ByteArray} (h : SAt w p ss) (hb : Below w.heap.size w w') : SAt w' p ss := fun hl => by
  obtain ⟨b, o, rfl, hc⟩ := h hl
  exact ⟨b, o, rfl, fun i x hx => (hb.cell (p := ⟨b, o + i, none⟩) (World.block_lt_of_cell? _ _ (hc i x hx))).trans (hc i x hx)⟩
theorem SAt.at {w : World} {p : Option Addr} {ss : List ByteArray} (h : SAt w p ss) {k : Nat} (hk : k < ss.length) : ∃ b o s, p = some ⟨b, o, none⟩ ∧ ss[k]? = some s ∧ w.cell? ⟨b, o + k, none⟩ = some (.string s) := by
  obtain ⟨b, o, hp, hc⟩ := h (fun e => by rw [e] at hk; simp at hk)
  exact ⟨b, o, _, hp, List.getElem?_eq_getElem hk, hc _ _ (List.getElem?_eq_getElem hk)⟩

/-- The slice v, made by the call itself, holds the values xs. -/
structure Own (w wr : World) (B e : Nat) (v : Value) (xs : List Value) : Prop where
  own : wr.ownsRow B e 1 v xs.length xs
  below : Below B w wr
  size : B ≤ wr.heap.size

theorem Own.nil (w : World) (B e : Nat) (h : B ≤ w.heap.size) : Own w w B e (.slice none 0 0) [] := ⟨World.ownsRow_nil _ _ _ _, Below.refl _ _, h⟩
/-- Behind an append: what was appended lay in new memory or in none. -/
theorem Own.grow {w wr w0 w1 : World} {B e m : Nat} {v v' : Value} {xs ys zs : List Value} (h : Own w wr B e v xs) (h0 : Below B wr w0) (h1 : w1.ownsRow B e 1 v' m ys) (hy : ys = xs ++ zs) (hg : w0.grownBy w1 v.ownBlock) : Own w w1 B e v' (xs ++ zs) := by
  have hz := h.size
  have hz0 := h0.size
  have hb : Below B w w1 := (h.below.trans h0).grown hg (by omega) (fun k hk => (h.own.lt k hk).1)
  have h2 : Below B w0 w1 := (Below.refl _ _).grown hg (by omega) (fun k hk => (h.own.lt k hk).1)
  have h3 := h2.size
  have hm : m = ys.length := by have := h1.1; omega
  subst hy
  subst hm
  exact ⟨h1, hb, by omega⟩
/-- Over a call that leaves what was. -/
theorem Own.kept {w wr w1 : World} {B e : Nat} {v : Value} {xs : List Value} (h : Own w wr B e v xs) (hb : Below wr.heap.size wr w1) : Own w w1 B e v xs := by
  refine ⟨h.own.kept (row := none) ⟨hb.os, hb.tape, hb.output, hb.size, fun k hk _ => hb.block k hk⟩ ?_, h.below.trans (hb.mono h.size), Nat.le_trans h.size hb.size⟩
  cases hv : v.ownBlock with
  | none => exact Or.inl rfl
  | some g => exact Or.inr (by simp)
theorem Own.form {w wr : World} {B e : Nat} {v : Value} {xs : List Value} (h : Own w wr B e v xs) : (∃ p cap, v = .slice p xs.length cap) ∧ (xs ≠ [] → ∃ g cap, v = .slice (some ⟨g, 0, none⟩) xs.length cap ∧ B ≤ g ∧ ∀ j u, xs[j]? = some u → wr.cell? ⟨g, j, none⟩ = some u) := by
  rcases h.own.2 with ⟨hv, h0⟩ | ⟨g, cap, cur, rfl, hB, _⟩
  · exact ⟨⟨none, 0, by rw [hv, h0]⟩, fun hne => absurd (List.eq_nil_of_length_eq_zero h0) hne⟩
  · refine ⟨⟨_, _, rfl⟩, fun _ => ⟨g, cap, rfl, hB, fun j u hu => ?_⟩⟩
    have := h.own.cells (g := g) rfl j u hu
    by_cases hj : j = 0
    · subst hj; simpa [Addr.add] using this
    · simpa [Addr.add, hj] using this

abbrev sv (s : ByteArray) : Value := .string s

/-! ### The header -/
section
variable (code agent date : ByteArray) (wd : Bool)
def quo (t : ByteArray) : List UInt8 := 34 :: (esc t.data.toList ++ [34])
def dat : List UInt8 := if wd then 32 :: quo date else []
def item (t : ByteArray) : List UInt8 := code.data.toList ++ 32 :: (agent.data.toList ++ 32 :: (quo t ++ dat date wd))
def tl (l : List ByteArray) : List UInt8 := l.flatMap fun t => 44 :: 32 :: item code agent date wd t
def hdr : List ByteArray → List UInt8
  | [] => []
  | t :: l => item code agent date wd t ++ tl code agent date wd l
end

structure Par (code agent : ByteArray) : Prop where
  code0 : code.size ≠ 0
  codeNo : ∀ b ∈ code.data.toList, b ≠ 32
  codeH : ∀ b, code.data.toList.head? = some b → b ≠ 9 ∧ b ≠ 44
  agent0 : agent.size ≠ 0
  agentNo : ∀ b ∈ agent.data.toList, b ≠ 32

variable {code agent date : ByteArray} {wd : Bool}

theorem Par.head (h : Par code agent) : ∃ b l, code.data.toList = b :: l ∧ b ≠ 32 ∧ b ≠ 9 ∧ b ≠ 44 := by
  cases hl : code.data.toList with
  | nil => exact absurd (by have e : code.data.toList.length = code.size := by simp
                            rw [← e, hl]; rfl) h.code0
  | cons b l =>
    obtain ⟨h1, h2⟩ := h.codeH b (by rw [hl]; rfl)
    exact ⟨b, l, rfl, h.codeNo b (by rw [hl]; simp), h1, h2⟩

abbrev mk (l : List UInt8) : ByteArray := ⟨l.toArray⟩
theorem mk_list (l : List UInt8) : (mk l).data.toList = l := by simp
theorem mk_size (l : List UInt8) : (mk l).size = l.length := by simp [ByteArray.size]

theorem item_cuts (h : Par code agent) (t : ByteArray) (R : List UInt8) (V : ByteArray) (hV : V.data.toList = item code agent date wd t ++ R) :
    Cuts V code (mk (agent.data.toList ++ 32 :: (quo t ++ (dat date wd ++ R)))) :=
  ⟨by rw [hV, mk_list]; simp [item], h.code0, h.codeNo⟩
theorem agent_cuts (h : Par code agent) (l : List UInt8) : Cuts (mk (agent.data.toList ++ 32 :: l)) agent (mk l) := ⟨by rw [mk_list, mk_list], h.agent0, h.agentNo⟩
theorem quo_quoted (t : ByteArray) (l : List UInt8) : Quoted (mk (quo t ++ l)) t (mk l) := by
  unfold Quoted
  rw [mk_list, mk_list]; simp [quo]

/-- No blank, no tab in front. -/
def Sharp (l : List UInt8) : Prop := ∀ b, l.head? = some b → b ≠ 32 ∧ b ≠ 9

theorem trim_sharp {l : List UInt8} (h : Sharp l) : Lib.trimLeftS l [32, 9] = l := by
  unfold Lib.trimLeftS
  cases l with
  | nil => rfl
  | cons b l =>
    obtain ⟨h1, h2⟩ := h b rfl
    simp [List.dropWhile, h1, h2]
theorem trim_blank {l : List UInt8} (h : Sharp l) : Lib.trimLeftS (32 :: l) [32, 9] = l := by
  have := trim_sharp h
  unfold Lib.trimLeftS at this ⊢
  rw [List.dropWhile_cons]
  simpa using this

theorem trim_keep (s : ByteArray) (w : World) (h : Sharp s.data.toList) :
    Calls Tryd.prog 11 #[.string s, .string ⟨#[32, 9]⟩] w fun e w' => e = .returned (.string s) ∧ Below w.heap.size w w' := by
  have := trimLeft_any s w
  rw [trim_sharp h] at this
  exact this
theorem trim_drop (s x : ByteArray) (w : World) (hs : s.data.toList = 32 :: x.data.toList) (h : Sharp x.data.toList) :
    Calls Tryd.prog 11 #[.string s, .string ⟨#[32, 9]⟩] w fun e w' => e = .returned (.string x) ∧ Below w.heap.size w w' := by
  have := trimLeft_any s w
  rw [hs, trim_blank h] at this
  exact this

theorem item_sharp (h : Par code agent) (t : ByteArray) (R : List UInt8) : Sharp (item code agent date wd t ++ R) := by
  obtain ⟨b, l, hb, h1, h2, _⟩ := h.head
  intro c hc
  unfold item at hc
  rw [hb] at hc
  simp at hc
  subst hc
  exact ⟨h1, h2⟩
theorem tl_sharp (l : List ByteArray) : Sharp (tl code agent date wd l) := by
  intro b hb
  cases l with
  | nil => simp [tl] at hb
  | cons t l =>
    simp [tl] at hb
    subst hb
    decide
theorem quo_sharp (t : ByteArray) (R : List UInt8) : Sharp (quo t ++ R) := by
  intro b hb
  simp [quo] at hb
  subst hb
  decide
theorem tl_head (l : List ByteArray) : l ≠ [] → ∃ r, tl code agent date wd l = 44 :: r := by
  cases l with
  | nil => intro h; exact absurd rfl h
  | cons t l => intro _; exact ⟨_, by simp [tl]; rfl⟩
theorem tl_noquote (l : List ByteArray) : ((mk (tl code agent date wd l)).data.toList.head? == some (34 : UInt8)) = false := by
  rw [mk_list]
  cases l with
  | nil => rfl
  | cons t l => simp [tl]
theorem quo_isquote (t : ByteArray) (R : List UInt8) : ((mk (quo t ++ R)).data.toList.head? == some (34 : UInt8)) = true := by
  rw [mk_list]; simp [quo]
end Go.Proofs.Qxb6600273aDoor
