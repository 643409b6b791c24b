/-
  Seat b6613197a. The walk of zzBytes_FnTermCountWaitingIgnoresSelf (5): laid by a small program, one loop a list. By an AI agent.
-/
import Derived.Test.Qxb6613197aProg
import Derived.Test.Qxb6613197aBasic
namespace Go.Proofs.Qxb6613197a
open Go.RowKit
set_option linter.unusedVariables false
set_option linter.unusedSimpArgs false

/-- the lengths that the guard has seen to be at most 2^20 -/
structure Small (N : List ByteArray) : Prop where
  ln : N.length ≤ 1048576
  sn : ∀ j, (h : j < N.length) → N[j].size ≤ 1048576

/-- what the guard 5 answers -/
def Bytes5 (N0 : List ByteArray) (S0 : ByteArray) (e : Ending) : Prop :=
  ∃ b : Bool, e = .returned (.bool b) ∧ (b = true → Small N0 ∧ S0.size ≤ 1048576)

set_option maxHeartbeats 4000000 in
set_option maxRecDepth 100000 in
theorem bytes5_any (N0 : List ByteArray) (S0 : ByteArray) (n0a : Option Addr) (n0c : Nat) (i1 : Int) (w : World)
    (bN0 : N0.length ≤ maxLen) (sN0 : ∀ i, (h : i < N0.length) → N0[i].size ≤ maxLen) (rN0 : RowAt w n0a (N0.map Value.string))
    (bS0 : S0.size ≤ maxLen) :
    Calls Try.prog 5 #[.slice n0a N0.length n0c, .string S0, .int .i64 i1] w fun e w' => Bytes5 N0 S0 e ∧ w' = w := by
  unfold maxLen at *
  go_enter Try.func5, Try.ntmps5
  by_cases hN0 : N0.length ≤ 1048576
  case neg =>
    go_wp2
    go_ret
    exact ⟨⟨false, rfl, fun h => by cases h⟩, rfl⟩
  go_wp2
  go_loop [7, 8] (fun t i => ∃ (k : Nat) (z : Int), k ≤ N0.length ∧ i = .int .i64 k ∧ t = .int .i64 z ∧ 0 ≤ z ∧ z ≤ 1048576 ∧ Hid (∀ j, (h : j < N0.length) → j < k → N0[j].size ≤ 1048576)) (fun _ i => N0.length - (intOf i).toNat)
  case atStart => exact ⟨0, _, Nat.zero_le _, rfl, rfl, by omega, by omega, fun j h hk => by omega⟩
  case round =>
    obtain ⟨kN0, zN0, hkN0, rfl, rfl, hz0N0, hz1N0, hsN0⟩ := hrel
    by_cases hltN0 : kN0 < N0.length
    case pos =>
      obtain ⟨b, off, e, hc⟩ := rN0 kN0 (by simpa using hltN0)
      subst e
      have hsz := sN0 kN0 hltN0
      have HS : Hid (∀ j, (h : j < N0.length) → j < kN0 + 1 → N0[kN0].size ≤ 1048576 → N0[j].size ≤ 1048576) := by
        intro j h hj he
        by_cases e : j = kN0
        · subst e; exact he
        · exact hsN0.out j h (by omega)
      simp only [List.getElem_map] at hc
      generalize N0[kN0] = s at hc hsz HS
      clear rN0 sN0
      by_cases hb1 : s.size ≤ 1048576
      case neg =>
        go_wp2
        go_ret
        exact ⟨⟨false, rfl, fun h => by cases h⟩, rfl⟩
      by_cases hb2 : zN0 + (s.size : Int) ≤ 1048576
      case neg =>
        go_wp2
        go_ret
        exact ⟨⟨false, rfl, fun h => by cases h⟩, rfl⟩
      go_wp2
      go_round
      case rel => exact ⟨kN0 + 1, _, by omega, by go_num, rfl, by omega, by omega, fun j h hj => HS.out j h hj hb1⟩
      case measure => simp [intOf]; omega
    have HN0 : Hid (∀ j, (h : j < N0.length) → N0[j].size ≤ 1048576) := fun j h => hsN0.out j h (by omega)
    clear hsN0
    by_cases hS0 : S0.size ≤ 1048576
    case neg =>
      go_wp2
      go_ret
      exact ⟨⟨false, rfl, fun h => by cases h⟩, rfl⟩
    by_cases hS0z : zN0 + (S0.size : Int) ≤ 1048576
    case neg =>
      go_wp2
      go_ret
      exact ⟨⟨false, rfl, fun h => by cases h⟩, rfl⟩
    go_wp2
    go_ret
    exact ⟨⟨true, rfl, fun _ => ⟨⟨hN0, HN0.out⟩, hS0⟩⟩, rfl⟩

end Go.Proofs.Qxb6613197a
