/-
  bytes.IndexAny over CR LF at more than eight bytes (the set of ASCII bytes); and all lengths under one statement.
-/
import Derived.Test.Qxb6002908aDoorIdx2
import Derived.Lib.AsciiSet
import Derived.Deep.WholeRow
namespace Go.Proofs.Qxb6002908aDoor
open Go.RowKit Go.Shelf Go.Lib

theorem h43 : (Tryd.prog.info? 43).map (fun i => (i.zero, i.size)) = some (some (.agg (Array.replicate 256 (.bool false))), 256) := by kernel_rfl
theorem info43 : (∀ w, (zeroValue 43).run Tryd.prog w = .ok (.agg (Array.replicate 256 (.bool false))) w) ∧ (Tryd.prog.info? 43).map (·.size) = some 256 := zero_of_info h43

theorem mkSet (w : World) : Calls Tryd.prog 18 #[.string ⟨#[13, 10]⟩] w fun e w' => e = .returned (.tuple #[.agg (Lib.setCells [13, 10]), .bool true]) ∧ w' = w.alloc (.cells (Lib.setCells [13, 10]) 43) :=
  Any.bytes_makeASCIISet Tryd.lays11 info43.1 info43.2 ⟨#[13, 10]⟩ w (by decide) (fun j b hb => by
    have hm : b ∈ ([13, 10] : List UInt8) := List.mem_of_getElem? hb
    simp at hm
    rcases hm with h | h <;> (rw [h]; decide))
theorem inSet (b : Nat) (x : UInt8) (v : Bool) (w : World) (hc : w.cell? ⟨b, x.toNat, none⟩ = some (.bool v)) :
    Calls Tryd.prog 19 #[.pointer (some ⟨b, 0, none⟩), .int .u8 x.toNat] w fun e w' => e = .returned (.bool v) ∧ w' = w :=
  Any.bytes_asciiSet_contains Tryd.lays16 b x v w hc

def setC : Array Value := Lib.setCells [13, 10]

set_option maxHeartbeats 1000000 in
set_option maxRecDepth 1000000 in
theorem idx_long (l : List UInt8) (b o n c : Nat) (w : World) (hl : l.length = n) (h8 : 8 < n) (hbig : n < 4294967281) (hc : ∀ (i : Nat) x, l[i]? = some x → w.cell? ⟨b, o + i, none⟩ = some (.int .u8 (x.toNat : Int))) :
    Calls Tryd.prog 14 #[.slice (some ⟨b, o, none⟩) n c, .string ⟨#[13, 10]⟩] w fun e w' => e = .returned (.int .i64 (Lib.indexAny l [13, 10])) ∧ Below w.heap.size w w' := by
  have hM : Calls Tryd.prog 18 #[.string ⟨#[13, 10]⟩] w fun e w' => e = .returned (.tuple #[.agg setC, .bool true]) ∧ w' = w.alloc (.cells setC 43) := mkSet w
  have hsz : setC.size = 256 := Lib.setCells_size [13, 10]
  have h8z : decide ((8 : Int) < (n : Int)) = true := decide_eq_true (by omega)
  have hn1 : ((n : Int) == 1) = false := beq_eq_false_iff_ne.2 (by omega)
  have hsc : (storeCells ⟨w.heap.size + 1, 0, none⟩ setC.toList 0).run Tryd.prog ((w.alloc (.cells setC 43)).alloc (.cells (Array.replicate 256 (.bool false)) 43)) = .ok () ((w.alloc (.cells setC 43)).alloc (.cells setC 43)) := by
    have := run_storeCells_new (P := Tryd.prog) (w.alloc (.cells setC 43)) 43 (Array.replicate 256 (.bool false)) setC (by rw [hsz]; exact info43.2) (by rw [hsz, Array.size_replicate]) (Lib.setCells_one _)
    simpa using this
  have hcellAt : ∀ x : UInt8, ((w.alloc (.cells setC 43)).alloc (.cells setC 43)).cell? ⟨w.heap.size + 1, x.toNat, none⟩ = some (.bool (lend x)) := fun x => by
    rw [World.cell?_alloc_at _ _ _ _ (by simp)]
    exact Lib.setCells_at [13, 10] x
  have HS : Hid (∀ x : UInt8, ((w.alloc (.cells setC 43)).alloc (.cells setC 43)).cell? ⟨w.heap.size + 1, x.toNat, none⟩ = some (.bool (lend x))) := hcellAt
  have HL : Hid (l.length = n) := hl
  have HC : Hid (∀ (i : Nat) x, l[i]? = some x → ((w.alloc (.cells setC 43)).alloc (.cells setC 43)).cell? ⟨b, o + i, none⟩ = some (.int .u8 (x.toNat : Int))) := fun i x hx => by
    have h1 := hc i x hx
    have h2 := World.block_lt_of_cell? _ _ h1
    have hB : Below w.heap.size w ((w.alloc (.cells setC 43)).alloc (.cells setC 43)) := ((Below.refl _ _).alloc (Nat.le_refl _) _).alloc (by simp) _
    exact (hB.cell (p := ⟨b, o + i, none⟩) h2).trans h1
  have hv := info43.1
  clear hcellAt hl hc
  go_enter Tryd.func14, Tryd.ntmps14
  go_wp2_with (first
    | (go_at_call 17; refine (useSet _ _).mono ?_; rintro e w' ⟨rfl, hw⟩; rw [hw, h8z])
    | (go_at_call 18; refine hM.mono ?_; rintro e w' ⟨rfl, hw⟩; rw [hw]))
  clear hM hsc hv
  go_loopg [62] n (fun g s8 wx => ∃ i : Nat, i + g = n ∧ s8 = .int .i64 i ∧ wx = ((w.alloc (.cells setC 43)).alloc (.cells setC 43)) ∧ Hid (Lib.NoAny l [13, 10] i))
  case atStart => exact ⟨0, by omega, rfl, rfl, Lib.NoAny.zero _ _⟩
  case round =>
    obtain ⟨i, hig, rfl, rfl, HN⟩ := hrel
    cases gk with
    | zero =>
      have hiz : ¬ ((i : Int) < (n : Int)) := by omega
      have HI : Hid (Lib.indexAny l [13, 10] = -1) := Lib.indexAny_none (by
        have e : i = l.length := by rw [HL.out]; omega
        rw [← e]; exact HN.out)
      go_wp2
      go_ret
      exact ⟨by rw [HI.out]; rfl, ((Below.refl _ _).alloc (Nat.le_refl _) _).alloc (by simp) _⟩
    | succ g =>
      have hiz : (i : Int) < (n : Int) := by omega
      have hil : i < l.length := by rw [HL.out]; omega
      obtain ⟨x, hx⟩ : ∃ x, l[i]? = some x := ⟨_, List.getElem?_eq_getElem hil⟩
      have hci := HC.out i x hx
      have hcx := HS.out x
      have HX : Hid (l[i]? = some x) := hx
      clear hx hil
      cases hin : lend x <;> rw [hin] at hcx
      · have HE : Hid ([13, 10].contains x = false) := hin
        clear hin
        go_wp2_with (go_at_call 19; refine (inSet _ x _ _ hcx).mono ?_; rintro e w' ⟨rfl, hw⟩; rw [hw])
        go_roundg g
        case measure => omega
        case rel => exact ⟨i + 1, by omega, by go_num, rfl, HN.out.succ HX.out HE.out⟩
      · have HE : Hid ([13, 10].contains x = true) := hin
        clear hin
        go_wp2_with (go_at_call 19; refine (inSet _ x _ _ hcx).mono ?_; rintro e w' ⟨rfl, hw⟩; rw [hw])
        go_ret
        exact ⟨by rw [Lib.indexAny_hit HN.out HX.out HE.out]; rfl, ((Below.refl _ _).alloc (Nat.le_refl _) _).alloc (by simp) _⟩

/-- bytes.IndexAny over CR LF, at every slice of bytes. -/
theorem idx_any (l : List UInt8) (p : Option Addr) (n c : Nat) (w : World) (hl : l.length = n) (hnc : n ≤ c) (hbig : n < 4294967281) (hL : Libs w) (hB : BAt w p l) :
    Calls Tryd.prog 14 #[.slice p n c, .string ⟨#[13, 10]⟩] w fun e w' => e = .returned (.int .i64 (Lib.indexAny l [13, 10])) ∧ Below w.heap.size w w' := by
  by_cases h0 : l = []
  · subst h0
    subst hl
    exact idx_zero p c w
  obtain ⟨b, o, rfl, hc⟩ := hB.at h0
  by_cases h1 : n = 1
  · match l, hl with
    | [x], hl =>
      subst hl
      exact idx_one b o c x w (hc 0 x rfl)
    | x :: y :: t, hl => simp at hl; omega
    | [], _ => exact absurd rfl h0
  · have : 0 < l.length := List.length_pos_iff.2 h0
    by_cases h8 : n ≤ 8
    · exact idx_short l b o n c w hl (by omega) h8 hnc hL hc
    · exact idx_long l b o n c w hl (by omega) hbig hc
end Go.Proofs.Qxb6002908aDoor
