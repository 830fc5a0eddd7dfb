/-
  parseTexts over a header that was built: a code that is none; the exported name.
-/
import Derived.Test.Qxb6600273aDoorParse
namespace Go.Proofs.Qxb6600273aDoor
open Go.Shelf Go.RowKit
variable {code agent date : ByteArray} {wd : Bool}

set_option maxHeartbeats 4000000 in
set_option maxRecDepth 100000 in
theorem parse_bad (hP : Par code agent) (hwc : ∀ w, Calls Tryd.prog 14 #[.string code] w fun e w' => e = .returned (.bool false) ∧ w' = w) (t : ByteArray) (texts : List ByteArray) (x : ByteArray) (w : World)
    (hx : x.data.toList = hdr code agent date wd (t :: texts)) (hlen : x.size ≤ 35184372088832) :
    Calls Tryd.prog 10 #[.string x] w fun e w' => e = .returned (.tuple #[.slice none 0 0, .bool false]) ∧ Below w.heap.size w w' := by
  have HM : Mode1 code agent date wd (t :: texts) 0 x x t := ⟨rfl, hx, Or.inl rfl⟩
  have htr := fun w' => HM.trim hP w'
  obtain ⟨hE1, h01, h441⟩ := HM.head hP
  obtain ⟨r3, hr3⟩ : ∃ r3, r3 = mk (dat date wd ++ tl code agent date wd texts) := ⟨_, rfl⟩
  obtain ⟨r2, hr2⟩ : ∃ r2, r2 = mk (quo t ++ (dat date wd ++ tl code agent date wd texts)) := ⟨_, rfl⟩
  obtain ⟨r1, hr1⟩ : ∃ r1, r1 = mk (agent.data.toList ++ 32 :: (quo t ++ (dat date wd ++ tl code agent date wd texts))) := ⟨_, rfl⟩
  have k1 := item_cuts hP t _ x hx
  rw [← hr1] at k1
  have k2 := agent_cuts hP (quo t ++ (dat date wd ++ tl code agent date wd texts))
  rw [← hr1, ← hr2] at k2
  have k3 := quo_quoted t (dat date wd ++ tl code agent date wd texts)
  rw [← hr2, ← hr3] at k3
  have z1 := k1.size
  have z2 := k2.size
  have z3 := k3.size
  have hc1 := fun w' => cut_any x code r1 w' k1 (by omega)
  have hc2 := fun w' => cut_any r1 agent r2 w' k2 (by omega)
  have hu := fun w' => unquote_any r2 t r3 w' k3 (by omega)
  clear z1 z2 z3 k1 k2 k3 hr1 hr2 hr3 hx HM hP
  go_enter Tryd.func10, Tryd.ntmps10
  go_wp2_with fail
  go_loopg [0, 4] 1 (fun g v tv wx => v = .string x ∧ tv = .slice none 0 0 ∧ wx = w)
  case atStart => exact ⟨rfl, rfl, rfl⟩
  case round =>
    obtain ⟨rfl, rfl, hwr⟩ := hrel
    have HB0 : Hid (Below w.heap.size w wr) := by rw [hwr]; exact Below.refl _ _
    clear hwr
    go_wp2_with fail
    refine (htr _).mono ?_
    rintro e w1 ⟨rfl, hb⟩
    have HB1 : Hid (Below w.heap.size w w1) := HB0.out.trans (hb.mono HB0.out.size)
    clear hb htr HB0
    go_wp2_with fail
    refine (hc1 _).mono ?_
    rintro e w2 ⟨rfl, hb⟩
    have HB2 : Hid (Below w.heap.size w w2) := HB1.out.trans (hb.mono HB1.out.size)
    clear hb hc1 HB1
    go_wp2_with fail
    refine (hc2 _).mono ?_
    rintro e w3 ⟨rfl, hb⟩
    have HB3 : Hid (Below w.heap.size w w3) := HB2.out.trans (hb.mono HB2.out.size)
    clear hb hc2 HB2
    go_wp2_with fail
    refine (hu _).mono ?_
    rintro e w4 ⟨rfl, hb⟩
    have HB4 : Hid (Below w.heap.size w w4) := HB3.out.trans (hb.mono HB3.out.size)
    clear hb hu HB3
    go_wp2_with fail
    refine (hwc _).mono ?_
    rintro e w5 ⟨rfl, hw5⟩
    have HB5 : Hid (Below w.heap.size w w5) := by rw [hw5]; exact HB4
    clear hw5 HB4 hwc
    go_wp2
    go_ret2
    exact ⟨rfl, HB5.out⟩

set_option maxHeartbeats 1000000 in
set_option maxRecDepth 100000 in
theorem zzparse_any {x : ByteArray} {R : Value → World → Prop} (w : World) (h : Calls Tryd.prog 10 #[.string x] w fun e w' => ∃ v1 v2, e = .returned (.tuple #[v1, v2]) ∧ R (.tuple #[v1, v2]) w') :
    Calls Tryd.prog 8 #[.string x] w fun e w' => ∃ v1 v2, e = .returned (.tuple #[v1, v2]) ∧ R (.tuple #[v1, v2]) w' := by
  go_enter Tryd.func8, Tryd.ntmps8
  go_wp2_with fail
  refine h.mono ?_
  rintro e w1 ⟨v1, v2, rfl, hR⟩
  have HR : Hid (R (.tuple #[v1, v2]) w1) := hR
  clear hR h
  go_wp2
  go_ret2
  exact ⟨_, _, rfl, HR.out⟩
end Go.Proofs.Qxb6600273aDoor
