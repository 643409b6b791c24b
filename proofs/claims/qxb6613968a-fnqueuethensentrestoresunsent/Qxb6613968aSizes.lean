/-
  Seat b6613968a. The walks of the size guards: zzAddStrings (25), zzAddWords (26), zzAddBytes (27), zzSizeOfEvents (7), zzSameLens (8), zzMaxInt (9). By an AI agent.
-/
import Derived.Test.Qxb6613968aProg
import Derived.Test.Qxb6613968aMem
namespace Go.Proofs.Qxb6613968a
open Go.RowKit
set_option linter.unusedVariables false
set_option linter.unusedSimpArgs false

set_option maxHeartbeats 400000 in
theorem addStrings_any (total : Int) (L : List ByteArray) (ao : Option Addr) (cap : Nat) (w : World) (h0 : 0 ≤ total) (h1 : total ≤ 1048576)
    (hn : L.length ≤ 1048576) (hs : ∀ i, (h : i < L.length) → L[i].size ≤ 1048576) (hrow : RowAt w ao (L.map Value.string)) :
    Calls Try.prog 25 #[.int .i64 total, .slice ao L.length cap] w fun e w' => (∃ r : Int, e = .returned (.int .i64 r) ∧ 0 ≤ r ∧ (r ≤ 1048576 → r = total + tot 16 (L.map ByteArray.size))) ∧ w' = w := by
  go_enter Try.func25, Try.ntmps25
  go_wp2
  go_loop [0, 5] (fun t i => ∃ k : Nat, k ≤ L.length ∧ i = .int .i64 k ∧ ∃ z : Int, t = .int .i64 z ∧ 0 ≤ z ∧ z ≤ 1048576 ∧ Hid (z = total + tot 16 ((L.map ByteArray.size).take k))) (fun _ i => L.length - (intOf i).toNat)
  case atStart => exact ⟨0, Nat.zero_le _, rfl, total, rfl, h0, h1, by simp [Hid, tot]⟩
  case round =>
    obtain ⟨k, hk, rfl, z, rfl, hz0, hz1, hz⟩ := hrel
    by_cases hlt : k < L.length
    · obtain ⟨b, off, rfl, hc⟩ := hrow k (by simpa using hlt)
      have hsz := hs k hlt
      have htk : Hid (tot 16 ((L.map ByteArray.size).take (k + 1)) = tot 16 ((L.map ByteArray.size).take k) + (16 + L[k].size)) := by
        have := tot_take_succ 16 (L.map ByteArray.size) k (by simpa using hlt)
        show _ = _
        simpa using this
      simp only [List.getElem_map] at hc
      generalize L[k] = s at hc hsz htk
      by_cases hbig : z + (16 + (s.size : Int)) ≤ 1048576
      · go_wp2
        go_round
        case rel => exact ⟨k + 1, by omega, by go_num, _, rfl, by omega, by omega, by have := hz.out; have := htk.out; show _ = _; omega⟩
        case measure => simp [intOf]; omega
      · go_wp2
        go_ret
        exact ⟨⟨_, rfl, by omega, fun h => by omega⟩, rfl⟩
    · go_wp2
      go_ret
      refine ⟨⟨_, rfl, by omega, fun h => ?_⟩, rfl⟩
      rw [hz.out, List.take_of_length_le (by simp; omega)]

set_option maxHeartbeats 400000 in
theorem addBytes_any (total : Int) (L : List Sl) (ao : Option Addr) (cap : Nat) (w : World) (h0 : 0 ≤ total) (h1 : total ≤ 1048576)
    (hn : L.length ≤ 1048576) (hs : ∀ i, (h : i < L.length) → L[i].n ≤ 1048576) (hrow : RowAt w ao (L.map Sl.v)) :
    Calls Try.prog 27 #[.int .i64 total, .slice ao L.length cap] w fun e w' => (∃ r : Int, e = .returned (.int .i64 r) ∧ 0 ≤ r ∧ (r ≤ 1048576 → r = total + tot 24 (L.map Sl.n))) ∧ w' = w := by
  go_enter Try.func27, Try.ntmps27
  go_wp2
  go_loop [0, 5] (fun t i => ∃ k : Nat, k ≤ L.length ∧ i = .int .i64 k ∧ ∃ z : Int, t = .int .i64 z ∧ 0 ≤ z ∧ z ≤ 1048576 ∧ Hid (z = total + tot 24 ((L.map Sl.n).take k))) (fun _ i => L.length - (intOf i).toNat)
  case atStart => exact ⟨0, Nat.zero_le _, rfl, total, rfl, h0, h1, by simp [Hid, tot]⟩
  case round =>
    obtain ⟨k, hk, rfl, z, rfl, hz0, hz1, hz⟩ := hrel
    by_cases hlt : k < L.length
    · obtain ⟨b, off, rfl, hc⟩ := hrow k (by simpa using hlt)
      have hsz := hs k hlt
      have htk : Hid (tot 24 ((L.map Sl.n).take (k + 1)) = tot 24 ((L.map Sl.n).take k) + (24 + L[k].n)) := by
        have := tot_take_succ 24 (L.map Sl.n) k (by simpa using hlt)
        show _ = _
        simpa using this
      simp only [List.getElem_map, Sl.v] at hc
      generalize L[k] = s at hc hsz htk
      obtain ⟨sa, sn, sc⟩ := s
      simp only at hc hsz htk
      by_cases hbig : z + (24 + (sn : Int)) ≤ 1048576
      · go_wp2
        go_round
        case rel => exact ⟨k + 1, by omega, by go_num, _, rfl, by omega, by omega, by have := hz.out; have := htk.out; show _ = _; omega⟩
        case measure => simp [intOf]; omega
      · go_wp2
        go_ret
        exact ⟨⟨_, rfl, by omega, fun h => by omega⟩, rfl⟩
    · go_wp2
      go_ret
      refine ⟨⟨_, rfl, by omega, fun h => ?_⟩, rfl⟩
      rw [hz.out, List.take_of_length_le (by simp; omega)]

theorem addWords_any (total : Int) (n : Nat) (w : World) (h0 : 0 ≤ total) (h1 : total ≤ 1048576) (hn : n ≤ 1048576) :
    Calls Try.prog 26 #[.int .i64 total, .int .i64 n] w fun e w' => (∃ r : Int, e = .returned (.int .i64 r) ∧ 0 ≤ r ∧ (r ≤ 1048576 → r = total + 8 * n)) ∧ w' = w := by
  by_cases h : n ≤ 131072
  · go_enter Try.func26, Try.ntmps26
    go_wp2
    go_ret
    exact ⟨⟨_, rfl, by omega, fun _ => rfl⟩, rfl⟩
  · go_enter Try.func26, Try.ntmps26
    go_wp2
    go_ret
    exact ⟨⟨_, rfl, by omega, fun _ => by omega⟩, rfl⟩

theorem maxInt_any (w : World) : Calls Try.prog 9 #[] w fun e w' => e = .returned (.int .i64 9223372036854775807) ∧ w' = w := by
  go_enter Try.func9, Try.ntmps9
  go_wp2
  go_ret
  exact ⟨rfl, rfl⟩

theorem sameLens_any (a b c : Option Addr) (la lb lc ca cb cc : Nat) (w : World) :
    Calls Try.prog 8 #[.slice a la ca, .slice b lb cb, .slice c lc cc] w fun e w' => e = .returned (.bool (decide (lb = la ∧ lc = la))) ∧ w' = w := by
  by_cases h1 : lb = la
  · have g1 : ((lb : Int) == (la : Int)) = true := beq_iff_eq.2 (by omega)
    by_cases h2 : lc = la
    · have g2 : ((lc : Int) == (la : Int)) = true := beq_iff_eq.2 (by omega)
      go_enter Try.func8, Try.ntmps8
      go_wp2
      go_ret
      exact ⟨by simp [h1, h2], rfl⟩
    · have g2 : ((lc : Int) == (la : Int)) = false := beq_eq_false_iff_ne.2 (by omega)
      go_enter Try.func8, Try.ntmps8
      go_wp2
      go_ret
      exact ⟨by simp [h2], rfl⟩
  · have g1 : ((lb : Int) == (la : Int)) = false := beq_eq_false_iff_ne.2 (by omega)
    go_enter Try.func8, Try.ntmps8
    go_wp2
    go_ret
    exact ⟨by simp [h1], rfl⟩

set_option maxHeartbeats 400000 in
theorem sizeOf_any (total : Int) (N : List ByteArray) (D : List Sl) (na ia da : Option Addr) (nc il ic dc : Nat) (w : World) (h0 : 0 ≤ total) (h1 : total ≤ 1048576)
    (hn : N.length ≤ 1048576) (hns : ∀ i, (h : i < N.length) → N[i].size ≤ 1048576) (hil : il ≤ 1048576) (hd : D.length ≤ 1048576) (hds : ∀ i, (h : i < D.length) → D[i].n ≤ 1048576)
    (hN : RowAt w na (N.map Value.string)) (hD : RowAt w da (D.map Sl.v)) :
    Calls Try.prog 7 #[.int .i64 total, .slice na N.length nc, .slice ia il ic, .slice da D.length dc] w fun e w' =>
      (∃ r : Int, e = .returned (.int .i64 r) ∧ 0 ≤ r ∧ (r ≤ 1048576 → r = total + tot 16 (N.map ByteArray.size) + 8 * il + tot 24 (D.map Sl.n))) ∧ w' = w := by
  go_enter Try.func7, Try.ntmps7
  go_wp2_with fail
  refine (addStrings_any total N na nc _ h0 h1 hn hns hN).mono ?_
  rintro e w' ⟨⟨r, rfl, hr0, hr⟩, rfl⟩
  have Hr := hr; clear hr
  by_cases g1 : r ≤ 1048576
  · have er := Hr g1
    have HR : Hid (r = total + tot 16 (N.map ByteArray.size)) := er
    clear er Hr
    go_wp2_with fail
    refine (addWords_any r il _ hr0 g1 hil).mono ?_
    rintro e w' ⟨⟨r2, rfl, hr20, hr2⟩, rfl⟩
    by_cases g2 : r2 ≤ 1048576
    · have HR2 : Hid (r2 = r + 8 * il) := hr2 g2
      clear hr2
      go_wp2_with fail
      refine (addBytes_any r2 D da dc _ hr20 g2 hd hds hD).mono ?_
      rintro e w' ⟨⟨r3, rfl, hr30, hr3⟩, rfl⟩
      have HR3 : Hid (r3 ≤ 1048576 → r3 = r2 + tot 24 (D.map Sl.n)) := hr3
      clear hr3
      go_wp2
      go_ret
      exact ⟨⟨_, rfl, hr30, fun h => by have := HR3.out h; have := HR2.out; have := HR.out; omega⟩, rfl⟩
    · clear hr2
      go_wp2
      go_ret
      exact ⟨⟨_, rfl, by omega, fun h => by omega⟩, rfl⟩
  · clear Hr
    go_wp2
    go_ret
    exact ⟨⟨_, rfl, by omega, fun h => by omega⟩, rfl⟩

end Go.Proofs.Qxb6613968a
