/-
  Seat b6613968a. The walk of FnQueueThenSentRestoresUnsent (4). By an AI agent.
-/
import Derived.Test.Qxb6613968aFinal
import Derived.Test.Qxb6613968aSent
import Derived.Test.Qxb6613968aBytes4
import Derived.Deep.RegionWith
namespace Go.Proofs.Qxb6613968a
open Go.Conc Go.RowKit
set_option linter.unusedVariables false
set_option linter.unusedSimpArgs false

namespace M4
theorem loopAt_same {S : Nat → Prop} {w0 w : World} {H R c : Nat} {st : St} (h : LoopAt S w0 H R c st w) : Same S w0 w := by
  obtain ⟨pa, pc, ra, rc, hrd, h1, h2, h3, h4, h5, h6⟩ := h
  exact h3

theorem sameLens_yes (a b c : Option Addr) (la lb lc ca cb cc : Nat) (w : World) (h : lb = la ∧ lc = la) : Calls Try.prog 8 #[.slice a la ca, .slice b lb cb, .slice c lc cc] w fun e w' => e = .returned (.bool true) ∧ w' = w := by
  have := sameLens_any a b c la lb lc ca cb cc w
  rwa [decide_eq_true h] at this
theorem sameLens_no (a b c : Option Addr) (la lb lc ca cb cc : Nat) (w : World) (h : ¬ (lb = la ∧ lc = la)) : Calls Try.prog 8 #[.slice a la ca, .slice b lb cb, .slice c lc cc] w fun e w' => e = .returned (.bool false) ∧ w' = w := by
  have := sameLens_any a b c la lb lc ca cb cc w
  rwa [decide_eq_false h] at this

/-- the guard, said over the three threes -/
theorem bytes21_of {w : World} {n0a i0a d0a n1a i1a d1a n2a i2a d2a : Option Addr} {n0c i0c d0c n1c i1c d1c n2c i2c d2c l0 il0 dl0 l1 il1 dl1 l2 il2 dl2 : Nat} {N0 N1 N2 : List ByteArray} {I0 I1 I2 : List Int} {D0 D1 D2 : List Sl} {X0 X1 X2 : List (List Int)}
    (h0 : Arg w n0a i0a d0a n0c i0c d0c l0 il0 dl0 N0 I0 D0 X0) (h1 : Arg w n1a i1a d1a n1c i1c d1c l1 il1 dl1 N1 I1 D1 X1) (h2 : Arg w n2a i2a d2a n2c i2c d2c l2 il2 dl2 N2 I2 D2 X2) (u : Int) (tok : Bool) :
    Calls Try.prog 21 #[.slice n0a l0 n0c, .slice i0a il0 i0c, .slice d0a dl0 d0c, .slice n1a l1 n1c, .slice i1a il1 i1c, .slice d1a dl1 d1c, .int .i64 u, .bool tok, .slice n2a l2 n2c, .slice i2a il2 i2c, .slice d2a dl2 d2c] w
      fun e w' => BytesRet N0 N1 N2 il0 il1 il2 D0 D1 D2 e ∧ w' = w := by
  obtain ⟨e0, e0i, e0d, _⟩ := h0
  obtain ⟨e1, e1i, e1d, _⟩ := h1
  obtain ⟨e2, e2i, e2d, _⟩ := h2
  subst e0 e0d e1 e1d e2 e2d
  exact bytes21_any N0 N1 N2 D0 D1 D2 n0a i0a d0a n1a i1a d1a n2a i2a d2a n0c il0 i0c d0c n1c il1 i1c d1c n2c il2 i2c d2c u tok w (by assumption) (by assumption) (by assumption) (by assumption) (by assumption) (by assumption) (by assumption) (by assumption) (by assumption) (by assumption) (by assumption) (by assumption) (by assumption) (by assumption) (by assumption) (by assumption) (by assumption) (by assumption) (by assumption) (by assumption) (by assumption)

theorem scan_all (l : List Nat) (u : Int) (h : u + tot 0 l ≤ 16777216) : scan u l = (u + tot 0 l, false) := by
  induction l generalizing u with
  | nil => simp [scan, tot]
  | cons x r ih =>
    simp only [tot] at h ⊢
    rw [scan_take (by omega), ih (u + x) (by omega)]
    congr 1
    omega

set_option maxRecDepth 100000 in
set_option maxHeartbeats 4000000 in
theorem f4_any {w : World} {n0a i0a d0a n1a i1a d1a n2a i2a d2a : Option Addr} {n0c i0c d0c n1c i1c d1c n2c i2c d2c l0 il0 dl0 l1 il1 dl1 l2 il2 dl2 : Nat} {N0 N1 N2 : List ByteArray} {I0 I1 I2 : List Int} {D0 D1 D2 : List Sl} {X0 X1 X2 : List (List Int)}
    (h0 : Arg w n0a i0a d0a n0c i0c d0c l0 il0 dl0 N0 I0 D0 X0) (h1 : Arg w n1a i1a d1a n1c i1c d1c l1 il1 dl1 N1 I1 D1 X1) (h2 : Arg w n2a i2a d2a n2c i2c d2c l2 il2 dl2 N2 I2 D2 X2) (u : Int) (tok : Bool) :
    Calls Try.prog 4 #[.slice n0a l0 n0c, .slice i0a il0 i0c, .slice d0a dl0 d0c, .slice n1a l1 n1c, .slice i1a il1 i1c, .slice d1a dl1 d1c, .int .i64 u, .bool tok, .slice n2a l2 n2c, .slice i2a il2 i2c, .slice d2a dl2 d2c] w
      fun e w' => e = .returned (.bool true) ∧ Below w.heap.size w w' := by
  go_enter Try.func4, Try.ntmps4
  go_wp2_with fail
  refine (bytes21_of h0 h1 h2 u tok).mono ?_
  rintro e w9 ⟨⟨b, rfl, hb⟩, hw9⟩
  rw [hw9]
  clear hw9
  cases b with
  | false =>
    clear hb
    go_wp2
    go_ret
    exact ⟨rfl, Below.refl _ _⟩
  | true =>
    obtain ⟨s0, s1, s2⟩ := hb rfl
    clear hb
    go_wp2_with fail
    refine (sizeOf_of h0 s0 0 (by omega) (by omega)).mono ?_
    rintro e w9 ⟨⟨r0, rfl, hr0, hr0'⟩, hw9⟩
    rw [hw9]
    clear hw9
    have R0 : Hid (r0 ≤ 1048576 → r0 = 0 + tot 16 (N0.map ByteArray.size) + 8 * il0 + tot 24 (D0.map Sl.n)) := hr0'
    clear hr0'
    by_cases g0 : r0 ≤ 1048576
    case neg =>
      go_wp2
      go_ret
      exact ⟨rfl, Below.refl _ _⟩
    go_wp2_with fail
    refine (sizeOf_of h1 s1 r0 hr0 g0).mono ?_
    rintro e w9 ⟨⟨r1, rfl, hr1, hr1'⟩, hw9⟩
    rw [hw9]
    clear hw9
    have R1 : Hid (r1 ≤ 1048576 → r1 = r0 + tot 16 (N1.map ByteArray.size) + 8 * il1 + tot 24 (D1.map Sl.n)) := hr1'
    clear hr1'
    by_cases g1 : r1 ≤ 1048576
    case neg =>
      go_wp2
      go_ret
      exact ⟨rfl, Below.refl _ _⟩
    go_wp2_with fail
    refine (sizeOf_of h2 s2 r1 hr1 g1).mono ?_
    rintro e w9 ⟨⟨r2, rfl, hr2, hr2'⟩, hw9⟩
    rw [hw9]
    clear hw9
    have R2 : Hid (r2 ≤ 1048576 → r2 = r1 + tot 16 (N2.map ByteArray.size) + 8 * il2 + tot 24 (D2.map Sl.n)) := hr2'
    clear hr2'
    by_cases g2 : r2 ≤ 1048576
    case neg =>
      go_wp2
      go_ret
      exact ⟨rfl, Below.refl _ _⟩
    go_wp2_with fail
    by_cases q0 : il0 = l0 ∧ dl0 = l0
    case neg =>
      refine (sameLens_no _ _ _ _ _ _ _ _ _ _ q0).mono ?_
      rintro e w9 ⟨rfl, hw9⟩
      rw [hw9]
      clear hw9 q0
      go_wp2
      go_ret
      exact ⟨rfl, Below.refl _ _⟩
    refine (sameLens_yes _ _ _ _ _ _ _ _ _ _ q0).mono ?_
    rintro e w9 ⟨rfl, hw9⟩
    rw [hw9]
    clear hw9
    obtain ⟨q0a, q0b⟩ := q0
    subst q0a q0b
    go_wp2_with fail
    by_cases q1 : il1 = l1 ∧ dl1 = l1
    case neg =>
      refine (sameLens_no _ _ _ _ _ _ _ _ _ _ q1).mono ?_
      rintro e w9 ⟨rfl, hw9⟩
      rw [hw9]
      clear hw9 q1
      go_wp2
      go_ret
      exact ⟨rfl, Below.refl _ _⟩
    refine (sameLens_yes _ _ _ _ _ _ _ _ _ _ q1).mono ?_
    rintro e w9 ⟨rfl, hw9⟩
    rw [hw9]
    clear hw9
    obtain ⟨q1a, q1b⟩ := q1
    subst q1a q1b
    go_wp2_with fail
    by_cases q2 : il2 = l2 ∧ dl2 = l2
    case neg =>
      refine (sameLens_no _ _ _ _ _ _ _ _ _ _ q2).mono ?_
      rintro e w9 ⟨rfl, hw9⟩
      rw [hw9]
      clear hw9 q2
      go_wp2
      go_ret
      exact ⟨rfl, Below.refl _ _⟩
    refine (sameLens_yes _ _ _ _ _ _ _ _ _ _ q2).mono ?_
    rintro e w9 ⟨rfl, hw9⟩
    rw [hw9]
    clear hw9
    obtain ⟨q2a, q2b⟩ := q2
    subst q2a q2b
    by_cases gu0 : 0 ≤ u
    case neg =>
      have hd : decide (u < 0) = true := by simp; omega
      go_wp2
      go_ret
      exact ⟨rfl, Below.refl _ _⟩
    have hd0 : decide (u < 0) = false := by simp; omega
    by_cases gu1 : u ≤ 16777216
    case neg =>
      have hd : decide (16777216 < u) = true := by simp; omega
      go_wp2
      go_ret
      exact ⟨rfl, Below.refl _ _⟩
    have hd1 : decide (16777216 < u) = false := by simp; omega
    have t0 := tot_ge 16 (N0.map ByteArray.size)
    have t1 := tot_ge 16 (N1.map ByteArray.size)
    have t2 := tot_ge 16 (N2.map ByteArray.size)
    rw [List.length_map, h0.eN] at t0
    rw [List.length_map, h1.eN] at t1
    rw [List.length_map, h2.eN] at t2
    have z2 := tot_zero_le 24 (D2.map Sl.n)
    have k0 := R0.out g0
    have k1 := R1.out g1
    have k2 := R2.out g2
    have b0 : dl0 ≤ 65536 := by omega
    have b1 : dl1 ≤ 65536 := by omega
    have b2 : dl2 ≤ 65536 := by omega
    have T2 : Hid (tot 0 (D2.map Sl.n) ≤ 1048576) := by show _ ≤ _; omega
    clear t0 t1 t2 z2 k0 k1 k2 R0 R1 R2 g0 g1 g2 hr0 hr1 hr2
    have GD : Hid (Arg w n2a i2a d2a n2c i2c d2c dl2 dl2 dl2 N2 I2 D2 X2) := h2
    go_wp2
    go_loop [24, 25] (fun t j => ∃ (k : Nat) (z : Int), k ≤ dl2 ∧ j = .int .i64 k ∧ t = .int .i64 z ∧ 0 ≤ z ∧ z ≤ 1048576 ∧ Hid (z = tot 0 ((D2.map Sl.n).take k))) (fun _ j => dl2 - (intOf j).toNat)
    case atStart => exact ⟨0, 0, Nat.zero_le _, rfl, rfl, by omega, by omega, by simp [Hid, tot]⟩
    case round =>
    obtain ⟨k, z, hk, rfl, rfl, hz0, hz1, hz⟩ := hrel
    by_cases hlt2 : k < dl2
    case pos =>
      have hkD : k < D2.length := by rw [GD.out.eD]; exact hlt2
      obtain ⟨b1, o1, e1, c1'⟩ := GD.out.rD k (by simpa using hkD)
      subst e1
      simp only [List.getElem_map, Sl.v] at c1'
      have hts := tot_take_succ 0 (D2.map Sl.n) k (by simpa using hkD)
      have htl := tot_take_le 0 (D2.map Sl.n) (k + 1)
      simp only [List.getElem_map] at hts
      have hTT := T2.out
      have hzz := hz.out
      have HTS : Hid (tot 0 ((D2.map Sl.n).take (k + 1)) = tot 0 ((D2.map Sl.n).take k) + (0 + D2[k].n)) := hts
      have hzx : z + (D2[k].n : Int) ≤ 1048576 := by omega
      clear hts htl hTT hzz
      generalize D2[k] = sd at c1' HTS hzx
      obtain ⟨sa, sn, sc⟩ := sd
      simp only at c1' HTS hzx
      have hlt2' : (k : Int) < (dl2 : Int) := by omega
      clear h0 h1 h2
      go_wp2
      go_round
      case rel => exact ⟨k + 1, _, by omega, by go_num, rfl, by omega, by omega, by have := hz.out; have := HTS.out; show _ = _; omega⟩
      case measure => simp [intOf]; omega
    have HZ : Hid (z = tot 0 (D2.map Sl.n)) := by
      have := hz.out
      rw [List.take_of_length_le (by rw [List.length_map, GD.out.eD]; omega)] at this
      exact this
    clear hz GD
    by_cases gz : u + z ≤ 16777216
    case neg =>
      go_wp2
      go_ret
      exact ⟨rfl, Below.refl _ _⟩
    go_wp2_with fail
    refine (cloneS_of h0.eN (by omega) h0.rN h0.gN h0.nN).mono ?_
    rintro e w1 ⟨a1, c1, rfl, o1⟩
    have A1 := h0.later o1.below
    go_wp2_with fail
    refine (cloneW_of A1.eI (by omega) A1.rI A1.gI A1.nI).mono ?_
    rintro e w2 ⟨a2, c2, rfl, o2⟩
    have A2 := A1.later o2.below
    go_wp2_with fail
    refine (cloneL_of A2.eD (by omega) s0.sd A2.rD A2.gD A2.nD A2.dats).mono ?_
    rintro e w3 ⟨a3, c3, E0, rfl, o3⟩
    have C0 := cl_mk h0.eN h0.eI (by rw [← h0.dats.len, h0.eD]) (by omega) o1 o2 o3
    clear o1 o2 o3 A1 A2
    have A3 := h1.later C0.below
    go_wp2_with fail
    refine (cloneS_of A3.eN (by omega) A3.rN A3.gN A3.nN).mono ?_
    rintro e w4 ⟨a4, c4, rfl, o1⟩
    have A4 := A3.later o1.below
    go_wp2_with fail
    refine (cloneW_of A4.eI (by omega) A4.rI A4.gI A4.nI).mono ?_
    rintro e w5 ⟨a5, c5, rfl, o2⟩
    have A5 := A4.later o2.below
    go_wp2_with fail
    refine (cloneL_of A5.eD (by omega) s1.sd A5.rD A5.gD A5.nD A5.dats).mono ?_
    rintro e w6 ⟨a6, c6, E1, rfl, o3⟩
    have C1 := cl_mk h1.eN h1.eI (by rw [← h1.dats.len, h1.eD]) (by omega) o1 o2 o3
    clear o1 o2 o3 A3 A4 A5
    go_wp2_with fail
    refine (newReader_any (C0.src.later C1.below) C1.src _ _ _ _ u 0 tok).mono ?_
    rintro e w7 ⟨R, c, ra, rc, pa, pc, rfl, hrd, hpn, hrn, hb7⟩
    have B6 := C0.below.trans (C1.below.mono C0.below.size)
    have B7 := B6.trans (hb7.mono B6.size)
    have A7 := h2.later B7
    go_wp2_with fail
    refine (cloneS_of A7.eN (by omega) A7.rN A7.gN A7.nN).mono ?_
    rintro e w8 ⟨a8, c8, rfl, o1⟩
    have A8 := A7.later o1.below
    go_wp2_with fail
    refine (cloneW_of A8.eI (by omega) A8.rI A8.gI A8.nI).mono ?_
    rintro e w9 ⟨a9, c9, rfl, o2⟩
    have A9 := A8.later o2.below
    go_wp2_with fail
    refine (cloneL_of A9.eD (by omega) s2.sd A9.rD A9.gD A9.nD A9.dats).mono ?_
    rintro e w10 ⟨a10, c10, E2, rfl, o3⟩
    have C2 := cl_mk h2.eN h2.eI (by rw [← h2.dats.len, h2.eD]) (by omega) o1 o2 o3
    clear o1 o2 o3 A7 A8 A9
    have B10 := B7.trans (C2.below.mono B7.size)
    have HL := loop_start (evs_length N0 I0 E0 (by rw [h0.eI, h0.eN]) (by rw [C0.src.ld, h0.eN])) (evs_length N1 I1 E1 (by rw [h1.eI, h1.eN]) (by rw [C1.src.ld, h1.eN])) (by rw [h0.eN, h1.eN]; exact hrd) hpn hrn hb7 C2.below
    have hE2 : E2.map Sl.n = D2.map Sl.n := by rw [lens_of_dats C2.dats, lens_of_dats h2.dats]
    have hEl : ((evs N2 I2 E2).map fun e => e.dat.n) = D2.map Sl.n := by
      rw [← hE2, ← evs_dats N2 I2 E2 (by rw [h2.eI, h2.eN]) (by rw [C2.src.ld, h2.eN]), List.map_map]
      rw [evs_dats N2 I2 E2 (by rw [h2.eI, h2.eN]) (by rw [C2.src.ld, h2.eN])]
      rfl
    have HEl : Hid (((evs N2 I2 E2).map fun e => e.dat.n) = D2.map Sl.n) := hEl
    have HPl : Hid ((evs N0 I0 E0).length ≤ 65536) := by
      show _ ≤ _
      rw [evs_length N0 I0 E0 (by rw [h0.eI, h0.eN]) (by rw [C0.src.ld, h0.eN]), h0.eN]; exact b0
    clear hEl hE2
    go_wp2
    go_loopw [30] (fun i wr => ∃ k : Nat, k ≤ dl2 ∧ i = .int .i64 k ∧ LoopAt (fun b => b < w6.heap.size ∨ Span w7.heap.size w10.heap.size b) w10 w6.heap.size R c ((⟨evs N0 I0 E0, evs N1 I1 E1, a1.isNone, a4.isNone, u, 0, tok⟩ : St).run ((evs N2 I2 E2).take k)) wr) (fun i _ => dl2 - (intOf i).toNat)
    case atStart => exact ⟨0, Nat.zero_le _, rfl, HL⟩
    case round =>
      clear HL
      obtain ⟨k, hk, rfl, hl⟩ := hrel
      by_cases hlt : k < dl2
      · obtain ⟨ev, b1, o1, b2, o2, b3, o3, hev, hdv, e1, e2, e3, hcells⟩ := script_at (S := fun b => b < w6.heap.size ∨ Span w7.heap.size w10.heap.size b) C2 (fun b h => .inr h) hlt
        subst e1 e2 e3
        have hbd := run_step_bounds ⟨evs N0 I0 E0, evs N1 I1 E1, a1.isNone, a4.isNone, u, 0, tok⟩ _ _ _ hev
        rw [HEl.out] at hbd
        simp only at hbd
        have hT := T2.out
        have hPl := HPl.out
        have hdn : ev.dat.n ≤ 1048576 := by
          have := C2.dats
          obtain ⟨x, hx⟩ : ∃ x, X2[k]? = some x := ⟨X2[k]'(by rw [← h2.dats.len, h2.eD]; exact hlt), by simp⟩
          have q1 := (C2.dats.each k _ x hdv hx).len
          have hkd : k < D2.length := by rw [h2.eD]; exact hlt
          have q2 := (h2.dats.each k D2[k] x (by simp) hx).len
          have q3 := s2.sd k hkd
          omega
        obtain ⟨p1, p2, p3⟩ := hbd
        have hst := take_snoc _ _ _ hev
        have HST : Hid ((evs N2 I2 E2).take (k + 1) = (evs N2 I2 E2).take k ++ [ev]) := hst
        have HEV : Hid ((evs N2 I2 E2)[k]? = some ev) := hev
        have HC : Hid (∀ w : World, Same (fun b => b < w6.heap.size ∨ Span w7.heap.size w10.heap.size b) w10 w → w.cell? ⟨b1, o1 + k, none⟩ = some (.string ev.name) ∧ w.cell? ⟨b2, o2 + k, none⟩ = some (.int .u64 ev.id) ∧ w.cell? ⟨b3, o3 + k, none⟩ = some (.slice ev.dat.a ev.dat.n ev.dat.c)) := hcells
        clear hst hev hcells hdv
        have hlt' : (k : Int) < (dl2 : Int) := by omega
        obtain ⟨z1, z2, z3⟩ := HC.out wr (loopAt_same hl)
        clear h0 h1 h2 s0 s1 s2 C0 C1 C2 hrd hpn hrn hb7 B6 B7 B10
        go_wp2
        go_region_with (go_at_call 14; go_must (refine (queue_step (hl.later (Below.refl _ _).drew) ev (by omega) (by omega) (by omega) (by omega)).mono ?_; rintro e' w' ⟨rfl, hl'⟩))
        all_goals go_wp2
        all_goals go_roundw
        all_goals first
          | (case rel => exact ⟨k + 1, by omega, by go_num, by rw [HST.out, St.run_snoc]; assumption⟩)
          | (case measure => simp [intOf]; omega)
      · have hlF : LoopAt (fun b => b < w6.heap.size ∨ Span w7.heap.size w10.heap.size b) w10 w6.heap.size R c ((⟨evs N0 I0 E0, evs N1 I1 E1, a1.isNone, a4.isNone, u, 0, tok⟩ : St).run (evs N2 I2 E2)) wr := by
          have := hl
          rw [List.take_of_length_le (by rw [evs_length N2 I2 E2 (by rw [h2.eI, h2.eN]) (by rw [C2.src.ld, h2.eN]), h2.eN]; omega)] at this
          exact this
        clear hl
        obtain ⟨pa', pc', ra', rc', hrd', hpn', hrn', hsm, hsep, hH, hbl⟩ := hlF
        have lP : (evs N0 I0 E0).length = dl0 := by rw [evs_length N0 I0 E0 (by rw [h0.eI, h0.eN]) (by rw [C0.src.ld, h0.eN]), h0.eN]
        have lQ : (evs N1 I1 E1).length = dl1 := by rw [evs_length N1 I1 E1 (by rw [h1.eI, h1.eN]) (by rw [C1.src.ld, h1.eN]), h1.eN]
        have lE : (evs N2 I2 E2).length = dl2 := by rw [evs_length N2 I2 E2 (by rw [h2.eI, h2.eN]) (by rw [C2.src.ld, h2.eN]), h2.eN]
        have lPE : (evs N0 I0 E0 ++ evs N2 I2 E2).length = dl0 + dl2 := by rw [List.length_append, lP, lE]
        have BR : Below w.heap.size w wr := B10.trans (hbl.mono B6.size)
        have q6 := C1.below.size
        have q7 := hb7.size
        have q10 := C2.below.size
        have q60 := B6.size
        have B37 : Below w3.heap.size w3 w10 := (C1.below.trans (hb7.mono q6)).trans (C2.below.mono (by omega))
        have B67 : Below w6.heap.size w6 w10 := hb7.trans (C2.below.mono q7)
        have d0 : DatsAt wr (fun b => b < w6.heap.size ∨ Span w7.heap.size w10.heap.size b) E0 X0 :=
          ((C0.dats.same (Same.of_below B37 (fun b h => h.2))).mono (fun b h => .inl (by have := h.2; omega))).same hsm
        have d1 : DatsAt wr (fun b => b < w6.heap.size ∨ Span w7.heap.size w10.heap.size b) E1 X1 :=
          ((C1.dats.same (Same.of_below B67 (fun b h => h.2))).mono (fun b h => .inl h.2)).same hsm
        have d2 : DatsAt wr (fun b => b < w6.heap.size ∨ Span w7.heap.size w10.heap.size b) E2 X2 :=
          (C2.dats.mono (fun b h => .inr h)).same hsm
        have hSlt : ∀ b, (fun b => b < w6.heap.size ∨ Span w7.heap.size w10.heap.size b) b → b < wr.heap.size ∧ b ≠ R := fun b h => ⟨(hsep b h).1, (hsep b h).2.1⟩
        have x0 : E0.length = N0.length := by rw [C0.src.ld, h0.eN]
        have x1 : E1.length = N1.length := by rw [C1.src.ld, h1.eN]
        have x2 : E2.length = N2.length := by rw [C2.src.ld, h2.eN]
        have nil1 : a4.isNone = n1a.isNone := C1.nil
        have hH6 : w.heap.size ≤ w6.heap.size := q60
        clear C0 C1 C2 hrd hpn hrn hb7 B6 B7 B10 B37 B67 hsm hsep hbl q6 q7 q10 q60
        have q22 : ∀ (w : World) (a : Option Addr) (n c n' c' : Nat), (binOp .eql 22 (.slice a n c) (.slice none n' c')).run Try.prog w = .ok (.bool a.isNone) w := fun w a n c n' c' => Lib.run_eql_slice_nil w _ _ a n c n' c' Try.underlying22
        generalize (fun b => b < w6.heap.size ∨ Span w7.heap.size w10.heap.size b) = S at *
        have hsa := scan_all (D2.map Sl.n) u (by rw [← HZ.out]; exact gz)
        have hrun := (St.run_scan ⟨evs N0 I0 E0, evs N1 I1 E1, a1.isNone, a4.isNone, u, 0, tok⟩ rfl (evs N2 I2 E2)).1
        rw [HEl.out] at hrun
        simp only at hrun
        rw [hsa] at hrun
        have hrun := hrun rfl
        simp only at hrun
        rw [← HZ.out] at hrun
        rw [hrun] at hrd' hrn'
        simp only at hrd' hrn'
        rw [nil1] at hrn'
        obtain ⟨tf, htf, htf2⟩ : ∃ tf : Bool, (if evs N2 I2 E2 = [] then tok else true) = tf ∧ tf = (tok || decide (0 < dl2)) := by
          refine ⟨_, rfl, ?_⟩
          by_cases h : evs N2 I2 E2 = []
          · have : dl2 = 0 := by rw [← lE, h]; rfl
            simp [h, this]
          · have : 0 < dl2 := by
              rw [← lE]
              exact List.length_pos_iff.2 h
            simp [h, this]
        rw [htf] at hrd'
        have HTF : Hid (tf = (tok || decide (0 < dl2))) := htf2
        clear htf htf2 hrun hsa HZ HEl HPl T2 nil1 hpn'
        go_wp2_with fail
        refine (unsent_any hrd').mono ?_
        rintro e w9 ⟨rfl, hw9⟩
        rw [hw9]
        clear hw9
        go_wp2_with fail
        refine (newChannel_any _).mono ?_
        rintro e w11 ⟨rfl, hch, hbc⟩
        have r11 := hrd'.later hbc
        go_wp2_with fail
        refine (sent_any r11 hch hH z (by omega) (by omega)).mono ?_
        rintro e w12 ⟨rfl, r12, hb12, hoth⟩
        rw [show u + z - z = u from by omega] at r12
        have hs11 := hbc.size
        have sm12 : Same S wr w12 := fun b hb => by
          have h1 := hSlt b hb
          rw [hoth b (by omega) h1.2]
          exact hbc.block b h1.1
        have e0 := d0.same sm12
        have e1 := d1.same sm12
        have e2 := d2.same sm12
        have B12 : Below w.heap.size w w12 := (BR.trans (hbc.mono BR.size)).trans (hb12.mono hH6)
        have hs12 := hb12.size
        have hSlt12 : ∀ b, S b → b < w12.heap.size := fun b hb => by have := (hSlt b hb).1; omega
        have G0 := h0.later B12
        have G1 := h1.later B12
        have G2 := h2.later B12
        clear h0 h1 h2 hrd' hch hbc r11 hb12 hoth d0 d1 d2 sm12 BR
        go_wp2_with fail
        refine (pending_of lPE r12 (by omega)).mono ?_
        rintro e w13 ⟨rfl, f1, f2, f3, fs, fb⟩
        have tP : Three w13 w12.heap.size (evs N0 I0 E0 ++ evs N2 I2 E2) := ⟨f1, f2, f3, fs⟩
        have r13 := r12.later fb
        clear f1 f2 f3 fs
        go_wp2_with fail
        refine (replay_of lQ r13 (by omega)).mono ?_
        rintro e w14 ⟨rfl, f1, f2, f3, fs, gb⟩
        have tQ : Three w14 w13.heap.size (evs N1 I1 E1) := ⟨f1, f2, f3, fs⟩
        have r14 := r13.later gb
        have tP2 := tP.later gb
        have b14 : Below w12.heap.size w12 w14 := fb.trans (gb.mono fb.size)
        clear f1 f2 f3 fs tP r12 r13
        go_wp2_with fail
        refine (unsent_any r14).mono ?_
        rintro e w9 ⟨rfl, hw9⟩
        rw [hw9]
        clear hw9
        go_wp2_with fail
        refine (cut_any r14).mono ?_
        rintro e w9 ⟨rfl, hw9⟩
        rw [hw9]
        clear hw9
        go_wp2_with fail
        refine (token_any r14).mono ?_
        rintro e w9 ⟨rfl, hw9⟩
        rw [hw9]
        clear hw9
        have hcase : (tok = true ∧ tf = true) ∨ (tok = false ∧ (0 : Int) < (dl2 : Int) ∧ tf = true) ∨ (tok = false ∧ dl2 = 0 ∧ tf = false) := by
          have := HTF.out
          cases tok with
          | true => exact .inl ⟨rfl, by simpa using this⟩
          | false =>
            by_cases h : 0 < dl2
            · exact .inr (.inl ⟨rfl, by omega, by simpa [h] using this⟩)
            · exact .inr (.inr ⟨rfl, by omega, by simpa [h] using this⟩)
        clear HTF r14
        rcases hcase with ⟨rfl, rfl⟩ | ⟨rfl, hpos, rfl⟩ | ⟨rfl, rfl, rfl⟩
        all_goals (
          go_wp2_with fail
          refine (are_two (S := S) (G0.later b14) s0 (G2.later b14) s2 x0 x2 tP2.r1 tP2.r2 tP2.r3 (dats_later e0 hSlt12 b14) (dats_later e2 hSlt12 b14) _ rfl).mono ?_
          rintro e w15 ⟨rfl, m, hm⟩
          subst hm
          have b15 : Below w12.heap.size w12 (w14.drewN m) := b14.trans ((below_drewN' w14 m).mono b14.size)
          have tQ2 := tQ.later (below_drewN' w14 m)
          go_wp2_with fail
          refine (are_one (S := S) (G1.later b15) s1 x1 tQ2.r1 tQ2.r2 tQ2.r3 (dats_later e1 hSlt12 b15)).mono ?_
          rintro e w16 ⟨rfl, m', hm'⟩
          subst hm'
          have b16 : Below w.heap.size w ((w14.drewN m).drewN m') := B12.trans ((b15.trans ((below_drewN' (w14.drewN m) m').mono b15.size)).mono B12.size)
          go_wp2
          go_ret
          exact ⟨by simp, by rw [← World.drewN_drewN]; exact b16⟩)

end M4
end Go.Proofs.Qxb6613968a
