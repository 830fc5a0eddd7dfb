/-
  zzCodeText.
-/
import Derived.Test.Qxb6600273aDoorApp
namespace Go.Proofs.Qxb6600273aDoor
open Go.Shelf Go.RowKit

def digit (b : UInt8) : Bool := decide (48 ≤ b.toNat ∧ b.toNat ≤ 57)

theorem digit_of (m : Nat) : ∃ b : UInt8, digit b = true ∧ b.toNat = 48 + m % 10 := by
  refine ⟨UInt8.ofNat (48 + m % 10), ?_, ?_⟩
  · have : (UInt8.ofNat (48 + m % 10)).toNat = 48 + m % 10 := by rw [UInt8.toNat_ofNat']; omega
    unfold digit
    rw [this]
    exact decide_eq_true ⟨by omega, by omega⟩
  · rw [UInt8.toNat_ofNat']; omega

/-- The array of twenty bytes while it is filled from behind. -/
structure Filled (w wr : World) (B k : Nat) (ds : List UInt8) : Prop where
  len : ds.length + k = 20
  some' : ∀ j, j < 20 → (wr.cell? ⟨B, j, none⟩).isSome = true
  dig : ∀ (j : Nat) (b : UInt8), ds[j]? = some b → wr.cell? ⟨B, k + j, none⟩ = some (.int .u8 (b.toNat : Int))
  all : ∀ b ∈ ds, digit b = true
  frozen : ∀ j, wr.frozen? ⟨B, j, none⟩ = false
  below : Below B w wr
  size : B < wr.heap.size

theorem Filled.step {w wr : World} {B k : Nat} {ds : List UInt8} (h : Filled w wr B (k + 1) ds) (b : UInt8) (hb : digit b = true) :
    Filled w (wr.setCell ⟨B, k, none⟩ (.int .u8 (b.toNat : Int))) B k (b :: ds) := by
  have hk : k < 20 := by have := h.len; omega
  refine ⟨by have := h.len; simp only [List.length_cons]; omega, fun j hj => ?_, fun j c hc => ?_, fun c hc => ?_, fun j => ?_, h.below.setCell (Nat.le_refl _) _, by simpa using h.size⟩
  · obtain ⟨u, hu⟩ := Option.isSome_iff_exists.1 (h.some' j hj)
    obtain ⟨v, hv⟩ := cell?_setCell_some (p := ⟨B, k, none⟩) (x := .int .u8 (b.toNat : Int)) hu
    rw [hv]; rfl
  · cases j with
    | zero =>
      obtain ⟨u, hu⟩ := Option.isSome_iff_exists.1 (h.some' k hk)
      simp only [List.getElem?_cons_zero, Option.some.injEq] at hc
      subst hc
      exact World.cell?_setCell_same _ _ _ hu
    | succ j =>
      rw [List.getElem?_cons_succ] at hc
      rw [World.cell?_setCell_other _ _ _ _ (by intro e; injection e with _ e2 _; omega), show k + (j + 1) = k + 1 + j by omega]
      exact h.dig j c hc
  · rcases List.mem_cons.1 hc with rfl | hc
    · exact hb
    · exact h.all c hc
  · rw [World.frozen?_setCell]; exact h.frozen j

theorem filled_start (w : World) : Filled w (w.alloc (Obj.cells #[Value.int IntKind.u8 0, Value.int IntKind.u8 0, Value.int IntKind.u8 0, Value.int IntKind.u8 0, Value.int IntKind.u8 0, Value.int IntKind.u8 0, Value.int IntKind.u8 0, Value.int IntKind.u8 0, Value.int IntKind.u8 0, Value.int IntKind.u8 0, Value.int IntKind.u8 0, Value.int IntKind.u8 0, Value.int IntKind.u8 0, Value.int IntKind.u8 0, Value.int IntKind.u8 0, Value.int IntKind.u8 0, Value.int IntKind.u8 0, Value.int IntKind.u8 0, Value.int IntKind.u8 0, Value.int IntKind.u8 0] 31)) w.heap.size 20 [] := by
  refine ⟨rfl, fun j hj => ?_, fun j b h => absurd h (by simp), fun b h => absurd h (by simp), fun j => ?_, (Below.refl _ _).alloc (Nat.le_refl _) _, by simp⟩
  · rw [World.cell?_alloc_at _ _ _ _ rfl, Array.getElem?_eq_getElem (by simpa using hj)]
    rfl
  · simp

theorem alen31 : Tryd.prog.arrayLen 31 = 20 := by kernel_rfl
theorem elem31 : Tryd.prog.elem 31 = 5 := by kernel_rfl
theorem slice31 (w : World) (B k : Nat) (hk : k < 20) :
    (Instr.sliceAt 31 (.pointer (some ⟨B, 0, none⟩)) (some (.int .i64 (k : Int))) none none).run Tryd.prog w = .ok (.slice (some ⟨B, k, none⟩) (20 - k) (20 - k)) w := by
  rw [run_sliceAt_array_l w 31 _ (by rw [alen31, elem31]; exact Tryd.underlying31) .i64 (k : Int) (by omega) (by rw [alen31]; omega), alen31, elem31, Tryd.sizeOf5]
  have : ¬ (20 = k) := by omega
  simp [Result.andThen, slicedAt, Addr.add, this]
  try omega

theorem pow_up {m k : Nat} (h : m < 10 ^ (k + 1)) : m / 10 < 10 ^ k := by
  rw [Nat.pow_succ] at h
  omega
theorem pow_len {m len : Nat} (h : m < 10 ^ len) (h2 : 1000 ≤ m) : 4 ≤ len := by
  rcases Nat.lt_or_ge len 4 with h3 | h3
  · have : 10 ^ len ≤ 10 ^ 3 := Nat.pow_le_pow_right (by decide) (by omega)
    omega
  · exact h3
theorem div_step {u m a : Nat} (h : u = m / 10 ^ a) : u / 10 = m / 10 ^ (a + 1) := by
  rw [h, Nat.div_div_eq_div_mul, Nat.pow_succ]
theorem div_zero_lt {m a : Nat} (h : m / 10 ^ a = 0) : m < 10 ^ a := by
  rcases Nat.div_eq_zero_iff.1 h with h | h
  · exact absurd h (Nat.ne_of_gt (Nat.pow_pos (by decide)))
  · exact h

/-- A row of bytes that the call made: what it holds. -/
def CodeRow (w w' : World) (v : Value) (cs : ByteArray) : Prop :=
  (∃ b o cap, v = .slice (some ⟨b, o, none⟩) cs.size cap ∧ ∀ (j : Nat) (u : UInt8), cs.data.toList[j]? = some u → w'.cell? ⟨b, o + j, none⟩ = some (bv u)) ∧ Below w.heap.size w w'

/-- A code that isWarnCode refuses. -/
structure BadCode (cs : ByteArray) : Prop where
  ne : cs.size ≠ 0
  small : cs.size ≤ 21
  chars : ∀ b ∈ cs.data.toList, digit b = true ∨ b = 45
  bad : cs.size ≠ 3 ∨ ∃ h : 0 < cs.size, (cs[0]'h).toNat < 48
structure GoodCode (cs : ByteArray) : Prop where
  three : cs.size = 3
  dig : ∀ (i : Nat) (hi : i < cs.size), 48 ≤ (cs[i]).toNat ∧ (cs[i]).toNat ≤ 57

theorem good3 (c : Nat) (hc : c ≤ 999) (w : World) : ∃ cs, CodeRow w (w.alloc (Obj.cells #[.int .u8 (48 + (c : Int) / 100), .int .u8 (48 + (c : Int) / 10 % 10), .int .u8 (48 + (c : Int) % 10)] 5)) (.slice (some ⟨w.heap.size, 0, none⟩) 3 3) cs ∧ GoodCode cs := by
  obtain ⟨a, ha1, ha2⟩ := digit_of (c / 100)
  obtain ⟨b, hb1, hb2⟩ := digit_of (c / 10)
  obtain ⟨d, hd1, hd2⟩ := digit_of c
  refine ⟨mk [a, b, d], ⟨⟨_, _, _, rfl, fun j u hu => ?_⟩, (Below.refl _ _).alloc (Nat.le_refl _) _⟩, rfl, fun i hi => ?_⟩
  · rw [mk_list] at hu
    match j, hu with
    | 0, hu => cases hu; simp [bv]; omega
    | 1, hu => cases hu; simp [bv]; omega
    | 2, hu => cases hu; simp [bv]; omega
  · match i, hi with
    | 0, _ => show 48 ≤ a.toNat ∧ a.toNat ≤ 57; omega
    | 1, _ => show 48 ≤ b.toNat ∧ b.toNat ≤ 57; omega
    | 2, _ => show 48 ≤ d.toNat ∧ d.toNat ≤ 57; omega

set_option maxHeartbeats 2000000 in
set_option maxRecDepth 100000 in
theorem code_good (c : Nat) (w : World) (hc : c ≤ 999) :
    Calls Tryd.prog 6 #[.int .i64 c] w fun e w' => ∃ v cs, e = .returned v ∧ CodeRow w w' v cs ∧ GoodCode cs := by
  have HG : Hid (∃ cs, CodeRow w (w.alloc (Obj.cells #[.int .u8 (48 + (c : Int) / 100), .int .u8 (48 + (c : Int) / 10 % 10), .int .u8 (48 + (c : Int) % 10)] 5)) (.slice (some ⟨w.heap.size, 0, none⟩) 3 3) cs ∧ GoodCode cs) := good3 c hc w
  go_enter Tryd.func6, Tryd.ntmps6
  go_wp2
  go_ret
  obtain ⟨cs, h1, h2⟩ := HG.out
  exact ⟨_, cs, rfl, h1, h2⟩

theorem len20 {j : Nat} {l : List UInt8} (h : l.length + j = 20) : ([] : List UInt8).length + l.length ≤ 70368744177664 := by simp; omega
theorem len21 {j : Nat} {l : List UInt8} (h : l.length + j = 20) : (([] : List UInt8) ++ [45]).length + l.length ≤ 70368744177664 := by simp; omega

theorem own_made {w1 w2 : World} {B : Nat} {v : Value} (hsz : B < w1.heap.size) (hown : w2.ownsRow (B + 1) 5 1 v 0 []) (hgrow : w1.grownBy w2 none) : Own w1 w2 (B + 1) 5 v (([] : List UInt8).map bv) := by
  have hb : Below (B + 1) w1 w2 := (Below.refl _ _).grown hgrow hsz (fun k h => by cases h)
  exact ⟨hown, hb, Nat.le_trans hsz hb.size⟩

theorem Filled.src {w wr w2 : World} {B k : Nat} {ds : List UInt8} (h : Filled w wr B k ds) (hb : Below (B + 1) wr w2) : ∀ (i : Nat) (u : UInt8), ds[i]? = some u → w2.cell? ((⟨B, k, none⟩ : Addr).add i) = some (bv u) := by
  intro i u hu
  have e : ((⟨B, k, none⟩ : Addr).add i) = ⟨B, k + i, none⟩ := by
    by_cases hi : i = 0
    · subst hi; simp [Addr.add]
    · simp [Addr.add, hi]
  rw [e, hb.cell (p := ⟨B, k + i, none⟩) (Nat.lt_succ_self _)]
  exact h.dig i u hu

theorem bad_pos {m u j : Nat} {b : UInt8} {ds : List UInt8} (hm : 1000 ≤ m) (hlink : u = m / 10 ^ (20 - (j + 1))) (hj : j + 1 ≤ 20) (hu : u < 10) (hl : (b :: ds).length + j = 20) (hd : ∀ c ∈ b :: ds, digit c = true) : BadCode (mk ([] ++ (b :: ds))) := by
  have h1 := div_step hlink
  rw [show 20 - (j + 1) + 1 = 20 - j by omega] at h1
  have h2 : m / 10 ^ (20 - j) = 0 := by rw [← h1]; omega
  have h3 := pow_len (div_zero_lt h2) hm
  have hz : (mk ([] ++ (b :: ds))).size = 20 - j := by rw [mk_size, List.nil_append]; omega
  refine ⟨by omega, by omega, fun c hc => Or.inl (hd c (by rw [mk_list] at hc; simpa using hc)), Or.inl (by omega)⟩
theorem bad_neg {j : Nat} {b : UInt8} {ds : List UInt8} (hl : (b :: ds).length + j = 20) (hd : ∀ c ∈ b :: ds, digit c = true) : BadCode (mk ([] ++ [45] ++ (b :: ds))) := by
  have hz : (mk ([] ++ [45] ++ (b :: ds))).size = 21 - j := by rw [mk_size]; simp only [List.nil_append, List.cons_append, List.length_cons] at hl ⊢; omega
  have hj : j < 20 := by simp only [List.length_cons] at hl; omega
  refine ⟨by omega, by omega, fun c hc => ?_, Or.inr ⟨by omega, by show (45 : UInt8).toNat < 48; decide⟩⟩
  rw [mk_list] at hc
  simp only [List.nil_append, List.cons_append, List.mem_cons] at hc
  rcases hc with rfl | hc
  · exact Or.inr rfl
  · exact Or.inl (hd c (by simpa using hc))

theorem row_of {w w1 wr : World} {B : Nat} {v : Value} {l : List UInt8} (h : Own w1 wr B 5 v (l.map bv)) (hne : l ≠ []) (hb : Below w.heap.size w w1) (hB : w.heap.size ≤ B) : CodeRow w wr v (mk l) := by
  obtain ⟨_, hf⟩ := h.form
  obtain ⟨g, cap, hv, _, hcs⟩ := hf (by simpa using hne)
  refine ⟨⟨g, 0, cap, by rw [hv, List.length_map, mk_size], fun j u hu => ?_⟩, hb.trans (h.below.mono hB)⟩
  rw [mk_list] at hu
  rw [Nat.zero_add]
  exact hcs j _ (by rw [List.getElem?_map, hu]; rfl)

set_option maxHeartbeats 4000000 in
set_option maxRecDepth 100000 in
theorem code_pos (m : Nat) (w : World) (hm : 1000 ≤ m) (hm2 : m ≤ 9223372036854775807) :
    Calls Tryd.prog 6 #[.int .i64 (m : Int)] w fun e w' => ∃ v cs, e = .returned v ∧ CodeRow w w' v cs ∧ BadCode cs := by
  obtain ⟨i0, hi, hz0, hz1, hz2⟩ := info_parts info5
  go_enter Tryd.func6, Tryd.ntmps6
  go_wp2_with fail
  go_loopg [3, 5] 20 (fun g v i wx => ∃ k u : Nat, ∃ ds : List UInt8, 1 ≤ k ∧ k ≤ 20 ∧ k ≤ g ∧ v = .int .u64 u ∧ u < 18446744073709551616 ∧ i = .int .i64 k ∧ Hid (u < 10 ^ k) ∧ Hid (Filled w wx w.heap.size k ds) ∧ Hid (u = m / 10 ^ (20 - k)))
  case atStart => 
    refine ⟨20, m, [], by omega, by omega, by omega, rfl, by omega, rfl, ?_, filled_start w, ?_⟩
    · show m < 10 ^ 20
      omega
    · show m = m / 10 ^ 0
      simp
  case round =>
    obtain ⟨k, u, ds, hk1, hk, hg, rfl, hu, rfl, HU, HF, HLk⟩ := hrel
    obtain ⟨j, rfl⟩ : ∃ j, k = j + 1 := ⟨k - 1, by omega⟩
    obtain ⟨b, hb1, hb2⟩ := digit_of u
    have HN := HF.out.step b hb1
    obtain ⟨x0, hx0⟩ := Option.isSome_iff_exists.1 (HF.out.some' j (by omega))
    have hf0 := HF.out.frozen j
    have HN' : Hid (Filled w (wr.setCell ⟨w.heap.size, j, none⟩ (.int .u8 (48 + (u : Int) % 10))) w.heap.size j (b :: ds)) := by
      rw [show (48 + (u : Int) % 10) = (b.toNat : Int) by omega]; exact HN
    have HP : Hid (u / 10 < 10 ^ j) := pow_up HU.out
    clear HN hb2 HF HU
    by_cases h10 : u < 10
    · have hz : ((u : Int) / 10 == 0) = true := by rw [beq_iff_eq]; omega
      have hdl : (b :: ds).length + j = 20 := HN'.out.len
      have hsl := fun w' => slice31 w' w.heap.size j (by omega)
      go_wp2_with (first
        | (at_make; refine wpList_make_own _ rfl _ _ 24 rfl (w.heap.size + 1) 5 i0 (.int .u8 0) 1 Tryd.underlying24 hi hz0 hz1 _ _ _ 21 rfl rfl rfl (by rw [hz2]; decide) (by unfold maxLen; omega) (by have := HN'.out.size; exact this) ?_; intro w2 hown hgrow; have HO2 : Hid (Own (wr.setCell ⟨w.heap.size, j, none⟩ (.int .u8 (48 + (u : Int) % 10))) w2 (w.heap.size + 1) 5 (.slice (some ⟨wr.heap.size, 0, none⟩) 0 21) (([] : List UInt8).map bv)) := own_made HN'.out.size (by simpa using hown) hgrow; clear hown hgrow)
        | (at_builtin; (refine wpList_push HO2.out (b :: ds) (len20 hdl) rfl (.tmp 52) (.tmp 54) rfl rfl ⟨w.heap.size, j, none⟩ (20 - j) (20 - j) (by omega) rfl (HN'.out.src HO2.out.below) ?_; intro v4 w4 HO4; clear HO2)))
      go_wp2
      go_ret
      exact ⟨_, _, rfl, row_of HO4.out (by simp) HN'.out.below (by omega), bad_pos hm HLk.out (by omega) h10 hdl HN'.out.all⟩
    · have hz : ((u : Int) / 10 == 0) = false := by rw [beq_eq_false_iff_ne]; omega
      have hj : 1 ≤ j := by
        rcases Nat.eq_zero_or_pos j with h | h
        · subst h; have := HP.out; simp at this; omega
        · exact h
      go_wp2
      go_roundg (gk - 1)
      case measure => omega
      case rel => exact ⟨j, u / 10, b :: ds, hj, by omega, by omega, by go_num, by omega, by go_num, HP, HN', by have e := div_step HLk.out; rw [show 20 - (j + 1) + 1 = 20 - j by omega] at e; exact e⟩

set_option maxHeartbeats 4000000 in
set_option maxRecDepth 100000 in
theorem code_neg (m : Nat) (w : World) (hm : 1 ≤ m) (hm2 : m ≤ 9223372036854775808) :
    Calls Tryd.prog 6 #[.int .i64 (-(m : Int))] w fun e w' => ∃ v cs, e = .returned v ∧ CodeRow w w' v cs ∧ BadCode cs := by
  obtain ⟨i0, hi, hz0, hz1, hz2⟩ := info_parts info5
  go_enter Tryd.func6, Tryd.ntmps6
  go_wp2_with fail
  go_loopg [3, 5] 20 (fun g v i wx => ∃ k u : Nat, ∃ ds : List UInt8, 1 ≤ k ∧ k ≤ 20 ∧ k ≤ g ∧ v = .int .u64 u ∧ u < 18446744073709551616 ∧ i = .int .i64 k ∧ Hid (u < 10 ^ k) ∧ Hid (Filled w wx w.heap.size k ds) ∧ Hid (True))
  case atStart => 
    obtain ⟨y, hy, hy2⟩ : ∃ y : Nat, IntKind.u64.wrap (bits BinOp.xor IntKind.u64 IntKind.u64.max (IntKind.u64.wrap (-(m : Int))) + 1) = (y : Int) ∧ y < 18446744073709551616 := by
      rw [IntKind.wrap_u64]
      refine ⟨((bits BinOp.xor IntKind.u64 IntKind.u64.max (IntKind.u64.wrap (-(m : Int))) + 1) % 18446744073709551616).toNat, ?_, ?_⟩
      · omega
      · omega
    refine ⟨20, y, [], by omega, by omega, by omega, by rw [hy], hy2, rfl, ?_, filled_start w, trivial⟩
    show y < 10 ^ 20
    omega
  case round =>
    obtain ⟨k, u, ds, hk1, hk, hg, rfl, hu, rfl, HU, HF, HLk⟩ := hrel
    obtain ⟨j, rfl⟩ : ∃ j, k = j + 1 := ⟨k - 1, by omega⟩
    obtain ⟨b, hb1, hb2⟩ := digit_of u
    have HN := HF.out.step b hb1
    obtain ⟨x0, hx0⟩ := Option.isSome_iff_exists.1 (HF.out.some' j (by omega))
    have hf0 := HF.out.frozen j
    have HN' : Hid (Filled w (wr.setCell ⟨w.heap.size, j, none⟩ (.int .u8 (48 + (u : Int) % 10))) w.heap.size j (b :: ds)) := by
      rw [show (48 + (u : Int) % 10) = (b.toNat : Int) by omega]; exact HN
    have HP : Hid (u / 10 < 10 ^ j) := pow_up HU.out
    clear HN hb2 HF HU
    by_cases h10 : u < 10
    · have hz : ((u : Int) / 10 == 0) = true := by rw [beq_iff_eq]; omega
      have hdl : (b :: ds).length + j = 20 := HN'.out.len
      have hsl := fun w' => slice31 w' w.heap.size j (by omega)
      go_wp2_with (first
        | (at_make; refine wpList_make_own _ rfl _ _ 24 rfl (w.heap.size + 1) 5 i0 (.int .u8 0) 1 Tryd.underlying24 hi hz0 hz1 _ _ _ 21 rfl rfl rfl (by rw [hz2]; decide) (by unfold maxLen; omega) (by have := HN'.out.size; exact this) ?_; intro w2 hown hgrow; have HO2 : Hid (Own (wr.setCell ⟨w.heap.size, j, none⟩ (.int .u8 (48 + (u : Int) % 10))) w2 (w.heap.size + 1) 5 (.slice (some ⟨wr.heap.size, 0, none⟩) 0 21) (([] : List UInt8).map bv)) := own_made HN'.out.size (by simpa using hown) hgrow; clear hown hgrow)
        | (at_builtin; refine wpList_push (HO2.out.alloc _) [45] (by decide) rfl (.tmp 49) (.tmp 50) rfl rfl ⟨w2.heap.size, 0, none⟩ 1 1 rfl rfl (new1 w2 45 45 rfl) ?_; intro v3 w3 HO3; clear HO2)
        | (at_builtin; refine wpList_push HO3.out (b :: ds) (len21 hdl) rfl (.tmp 52) (.tmp 54) rfl rfl ⟨w.heap.size, j, none⟩ (20 - j) (20 - j) (by omega) rfl (HN'.out.src HO3.out.below) ?_; intro v4 w4 HO4; clear HO3))
      go_wp2
      go_ret
      exact ⟨_, _, rfl, row_of HO4.out (by simp) HN'.out.below (by omega), bad_neg hdl HN'.out.all⟩
    · have hz : ((u : Int) / 10 == 0) = false := by rw [beq_eq_false_iff_ne]; omega
      have hj : 1 ≤ j := by
        rcases Nat.eq_zero_or_pos j with h | h
        · subst h; have := HP.out; simp at this; omega
        · exact h
      go_wp2
      go_roundg (gk - 1)
      case measure => omega
      case rel => exact ⟨j, u / 10, b :: ds, hj, by omega, by omega, by go_num, by omega, by go_num, HP, HN', trivial⟩
end Go.Proofs.Qxb6600273aDoor
