/-
  The bound on the arguments' lengths.
-/
import Derived.Test.Qxb6600273aDoorCode
namespace Go.Proofs.Qxb6600273aDoor
open Go.Shelf Go.RowKit

/-- A slice of strings as an argument. -/
structure StrIn (w : World) (p : Option Addr) (n : Nat) (ss : List ByteArray) : Prop where
  len : ss.length = n
  at' : SAt w p ss
  small : ∀ (i : Nat) (s : ByteArray), ss[i]? = some s → s.size ≤ 9223372036854775807
  big : n ≤ 9223372036854775807

set_option maxHeartbeats 2000000 in
set_option maxRecDepth 100000 in
theorem bytes_any (p : Option Addr) (n c : Nat) (ps : List ByteArray) (agent date : ByteArray) (code : Int) (wd : Bool) (w : World) (hp : StrIn w p n ps) (ha : agent.size ≤ 9223372036854775807) (hd : date.size ≤ 9223372036854775807) :
    Calls Tryd.prog 5 #[.slice p n c, .string agent, .int .i64 code, .string date, .bool wd] w fun e w' => ∃ v : Bool, e = .returned (.bool v) ∧ (v = true → ∀ (i : Nat) (s : ByteArray), ps[i]? = some s → s.size ≤ 1048576) ∧ w' = w := by
  have hn := hp.big
  have HP : Hid (StrIn w p n ps) := hp
  clear hp
  by_cases h1 : 1048576 < n
  · go_enter Tryd.func5, Tryd.ntmps5
    go_wp2
    go_ret
    exact ⟨_, rfl, fun h => (by cases h), rfl⟩
  go_enter Tryd.func5, Tryd.ntmps5
  go_wp2_with fail
  go_loopg [11, 12] n (fun g t i wx => ∃ k u : Nat, k ≤ n ∧ n ≤ k + g ∧ i = .int .i64 k ∧ t = .int .i64 u ∧ u ≤ 1048576 ∧ Hid (∀ (i : Nat) (s : ByteArray), i < k → ps[i]? = some s → s.size ≤ 1048576) ∧ wx = w)
  case atStart => exact ⟨0, n, by omega, by omega, rfl, by go_num, by omega, fun i s h => absurd h (Nat.not_lt_zero _), rfl⟩
  case round =>
    obtain ⟨k, u, hk, hg, rfl, rfl, hu, HS, rfl⟩ := hrel
    by_cases hlt : k < n
    · obtain ⟨b, o, s, hpa, hs, hc⟩ := HP.out.at'.at (k := k) (by rw [HP.out.len]; exact hlt)
      subst hpa
      have hss := HP.out.small k s hs
      by_cases h2 : 1048576 < s.size
      · clear hs
        go_wp2
        go_ret
        exact ⟨_, rfl, fun h => (by cases h), rfl⟩
      have HS2 : Hid (∀ (i : Nat) (s : ByteArray), i < k + 1 → ps[i]? = some s → s.size ≤ 1048576) := by
        intro i x hi hx
        rcases Nat.lt_or_ge i k with h | h
        · exact HS.out i x h hx
        · obtain rfl : i = k := by omega
          rw [hs] at hx
          cases hx
          omega
      clear hs HS
      by_cases h3 : 1048576 < u + s.size
      · go_wp2
        go_ret
        exact ⟨_, rfl, fun h => (by cases h), rfl⟩
      · go_wp2
        go_roundg (gk - 1)
        case measure => omega
        case rel => exact ⟨k + 1, u + s.size, by omega, by omega, by go_num, by go_num, by omega, HS2, rfl⟩
    · have HS2 : Hid (∀ (i : Nat) (s : ByteArray), ps[i]? = some s → s.size ≤ 1048576) := by
        intro i x hx
        have hi := (List.getElem?_eq_some_iff.1 hx).1
        rw [HP.out.len] at hi
        exact HS.out i x (by omega) hx
      clear HS
      by_cases h4 : 1048576 < agent.size
      · go_wp2
        go_ret
        exact ⟨_, rfl, fun h => (by cases h), rfl⟩
      by_cases h5 : 1048576 < u + agent.size
      · go_wp2
        go_ret
        exact ⟨_, rfl, fun h => (by cases h), rfl⟩
      by_cases h6 : 1048576 < date.size
      · go_wp2
        go_ret
        exact ⟨_, rfl, fun h => (by cases h), rfl⟩
      by_cases h7 : 1048576 < u + agent.size + date.size
      · go_wp2
        go_ret
        exact ⟨_, rfl, fun h => (by cases h), rfl⟩
      go_wp2
      go_ret
      exact ⟨_, rfl, fun _ => HS2.out, rfl⟩
end Go.Proofs.Qxb6600273aDoor
