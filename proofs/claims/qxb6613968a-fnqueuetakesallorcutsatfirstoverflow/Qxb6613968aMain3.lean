/-
  Seat b6613968a. The walk of FnQueueTakesAllOrCutsAtFirstOverflow (3). By an AI agent.
-/
import Derived.Test.Qxb6613968aFinal
import Derived.Deep.RegionWith
namespace Go.Proofs.Qxb6613968a
open Go.Conc Go.RowKit
set_option linter.unusedVariables false
set_option linter.unusedSimpArgs false

theorem LoopAt.same {S : Nat → Prop} {w0 w : World} {H R c : Nat} {st : St} (h : LoopAt S w0 H R c st w) : Same S w0 w := by
  obtain ⟨pa, pc, ra, rc, hrd, h1, h2, h3, h4, h5, h6⟩ := h
  exact h3

theorem sameLens_yes (a b c : Option Addr) (la lb lc ca cb cc : Nat) (w : World) (h : lb = la ∧ lc = la) : Calls Try.prog 8 #[.slice a la ca, .slice b lb cb, .slice c lc cc] w fun e w' => e = .returned (.bool true) ∧ w' = w := by
  have := sameLens_any a b c la lb lc ca cb cc w
  rwa [decide_eq_true h] at this
theorem sameLens_no (a b c : Option Addr) (la lb lc ca cb cc : Nat) (w : World) (h : ¬ (lb = la ∧ lc = la)) : Calls Try.prog 8 #[.slice a la ca, .slice b lb cb, .slice c lc cc] w fun e w' => e = .returned (.bool false) ∧ w' = w := by
  have := sameLens_any a b c la lb lc ca cb cc w
  rwa [decide_eq_false h] at this

set_option maxRecDepth 100000 in
set_option maxHeartbeats 4000000 in
theorem f3_any {w : World} {n0a i0a d0a n1a i1a d1a n2a i2a d2a : Option Addr} {n0c i0c d0c n1c i1c d1c n2c i2c d2c l0 il0 dl0 l1 il1 dl1 l2 il2 dl2 : Nat} {N0 N1 N2 : List ByteArray} {I0 I1 I2 : List Int} {D0 D1 D2 : List Sl} {X0 X1 X2 : List (List Int)}
    (h0 : Arg w n0a i0a d0a n0c i0c d0c l0 il0 dl0 N0 I0 D0 X0) (h1 : Arg w n1a i1a d1a n1c i1c d1c l1 il1 dl1 N1 I1 D1 X1) (h2 : Arg w n2a i2a d2a n2c i2c d2c l2 il2 dl2 N2 I2 D2 X2) (u cut : Int) (tok : Bool)
    (hu0 : -9223372036854775808 ≤ u) (hu1 : u ≤ 9223372036854775807) :
    Calls Try.prog 3 #[.slice n0a l0 n0c, .slice i0a il0 i0c, .slice d0a dl0 d0c, .slice n1a l1 n1c, .slice i1a il1 i1c, .slice d1a dl1 d1c, .int .i64 u, .int .i64 cut, .bool tok, .slice n2a l2 n2c, .slice i2a il2 i2c, .slice d2a dl2 d2c] w
      fun e w' => e = .returned (.bool true) ∧ Below w.heap.size w w' := by
  go_enter Try.func3, Try.ntmps3
  go_wp2_with fail
  refine (bytes6_of h0 h1 h2 u cut tok).mono ?_
  rintro e w9 ⟨⟨b, rfl, hb⟩, hw9⟩
  rw [hw9]
  clear hw9
  cases b with
  | false =>
    clear hb
    go_wp2
    go_ret
    exact ⟨rfl, Below.refl _ _⟩
  | true =>
    obtain ⟨s0, s1, s2⟩ := hb rfl
    clear hb
    go_wp2_with fail
    refine (sizeOf_of h0 s0 0 (by omega) (by omega)).mono ?_
    rintro e w9 ⟨⟨r0, rfl, hr0, hr0'⟩, hw9⟩
    rw [hw9]
    clear hw9
    have R0 : Hid (r0 ≤ 1048576 → r0 = 0 + tot 16 (N0.map ByteArray.size) + 8 * il0 + tot 24 (D0.map Sl.n)) := hr0'
    clear hr0'
    by_cases g0 : r0 ≤ 1048576
    case neg =>
      go_wp2
      go_ret
      exact ⟨rfl, Below.refl _ _⟩
    go_wp2_with fail
    refine (sizeOf_of h1 s1 r0 hr0 g0).mono ?_
    rintro e w9 ⟨⟨r1, rfl, hr1, hr1'⟩, hw9⟩
    rw [hw9]
    clear hw9
    have R1 : Hid (r1 ≤ 1048576 → r1 = r0 + tot 16 (N1.map ByteArray.size) + 8 * il1 + tot 24 (D1.map Sl.n)) := hr1'
    clear hr1'
    by_cases g1 : r1 ≤ 1048576
    case neg =>
      go_wp2
      go_ret
      exact ⟨rfl, Below.refl _ _⟩
    go_wp2_with fail
    refine (sizeOf_of h2 s2 r1 hr1 g1).mono ?_
    rintro e w9 ⟨⟨r2, rfl, hr2, hr2'⟩, hw9⟩
    rw [hw9]
    clear hw9
    have R2 : Hid (r2 ≤ 1048576 → r2 = r1 + tot 16 (N2.map ByteArray.size) + 8 * il2 + tot 24 (D2.map Sl.n)) := hr2'
    clear hr2'
    by_cases g2 : r2 ≤ 1048576
    case neg =>
      go_wp2
      go_ret
      exact ⟨rfl, Below.refl _ _⟩
    go_wp2_with fail
    by_cases q0 : il0 = l0 ∧ dl0 = l0
    case neg =>
      refine (sameLens_no _ _ _ _ _ _ _ _ _ _ q0).mono ?_
      rintro e w9 ⟨rfl, hw9⟩
      rw [hw9]
      clear hw9 q0
      go_wp2
      go_ret
      exact ⟨rfl, Below.refl _ _⟩
    refine (sameLens_yes _ _ _ _ _ _ _ _ _ _ q0).mono ?_
    rintro e w9 ⟨rfl, hw9⟩
    rw [hw9]
    clear hw9
    obtain ⟨q0a, q0b⟩ := q0
    subst q0a q0b
    go_wp2_with fail
    by_cases q1 : il1 = l1 ∧ dl1 = l1
    case neg =>
      refine (sameLens_no _ _ _ _ _ _ _ _ _ _ q1).mono ?_
      rintro e w9 ⟨rfl, hw9⟩
      rw [hw9]
      clear hw9 q1
      go_wp2
      go_ret
      exact ⟨rfl, Below.refl _ _⟩
    refine (sameLens_yes _ _ _ _ _ _ _ _ _ _ q1).mono ?_
    rintro e w9 ⟨rfl, hw9⟩
    rw [hw9]
    clear hw9
    obtain ⟨q1a, q1b⟩ := q1
    subst q1a q1b
    go_wp2_with fail
    by_cases q2 : il2 = l2 ∧ dl2 = l2
    case neg =>
      refine (sameLens_no _ _ _ _ _ _ _ _ _ _ q2).mono ?_
      rintro e w9 ⟨rfl, hw9⟩
      rw [hw9]
      clear hw9 q2
      go_wp2
      go_ret
      exact ⟨rfl, Below.refl _ _⟩
    refine (sameLens_yes _ _ _ _ _ _ _ _ _ _ q2).mono ?_
    rintro e w9 ⟨rfl, hw9⟩
    rw [hw9]
    clear hw9
    obtain ⟨q2a, q2b⟩ := q2
    subst q2a q2b
    go_wp2_with fail
    refine (maxInt_any _).mono ?_
    rintro e w9 ⟨rfl, hw9⟩
    rw [hw9]
    clear hw9
    by_cases gu : u ≤ 9223372036853727231
    case neg =>
      go_wp2
      go_ret
      exact ⟨rfl, Below.refl _ _⟩
    have t0 := tot_ge 16 (N0.map ByteArray.size)
    have t1 := tot_ge 16 (N1.map ByteArray.size)
    have t2 := tot_ge 16 (N2.map ByteArray.size)
    rw [List.length_map, h0.eN] at t0
    rw [List.length_map, h1.eN] at t1
    rw [List.length_map, h2.eN] at t2
    have z2 := tot_zero_le 24 (D2.map Sl.n)
    have k0 := R0.out g0
    have k1 := R1.out g1
    have k2 := R2.out g2
    have b0 : dl0 ≤ 65536 := by omega
    have b1 : dl1 ≤ 65536 := by omega
    have b2 : dl2 ≤ 65536 := by omega
    have T2 : Hid (tot 0 (D2.map Sl.n) ≤ 1048576) := by show _ ≤ _; omega
    clear t0 t1 t2 z2 k0 k1 k2 R0 R1 R2 g0 g1 g2 hr0 hr1 hr2
    go_wp2_with fail
    refine (cloneS_of h0.eN (by omega) h0.rN h0.gN h0.nN).mono ?_
    rintro e w1 ⟨a1, c1, rfl, o1⟩
    have A1 := h0.later o1.below
    go_wp2_with fail
    refine (cloneW_of A1.eI (by omega) A1.rI A1.gI A1.nI).mono ?_
    rintro e w2 ⟨a2, c2, rfl, o2⟩
    have A2 := A1.later o2.below
    go_wp2_with fail
    refine (cloneL_of A2.eD (by omega) s0.sd A2.rD A2.gD A2.nD A2.dats).mono ?_
    rintro e w3 ⟨a3, c3, E0, rfl, o3⟩
    have C0 := cl_mk h0.eN h0.eI (by rw [← h0.dats.len, h0.eD]) (by omega) o1 o2 o3
    clear o1 o2 o3 A1 A2
    have A3 := h1.later C0.below
    go_wp2_with fail
    refine (cloneS_of A3.eN (by omega) A3.rN A3.gN A3.nN).mono ?_
    rintro e w4 ⟨a4, c4, rfl, o1⟩
    have A4 := A3.later o1.below
    go_wp2_with fail
    refine (cloneW_of A4.eI (by omega) A4.rI A4.gI A4.nI).mono ?_
    rintro e w5 ⟨a5, c5, rfl, o2⟩
    have A5 := A4.later o2.below
    go_wp2_with fail
    refine (cloneL_of A5.eD (by omega) s1.sd A5.rD A5.gD A5.nD A5.dats).mono ?_
    rintro e w6 ⟨a6, c6, E1, rfl, o3⟩
    have C1 := cl_mk h1.eN h1.eI (by rw [← h1.dats.len, h1.eD]) (by omega) o1 o2 o3
    clear o1 o2 o3 A3 A4 A5
    go_wp2_with fail
    refine (newReader_any (C0.src.later C1.below) C1.src _ _ _ _ u cut tok).mono ?_
    rintro e w7 ⟨R, c, ra, rc, pa, pc, rfl, hrd, hpn, hrn, hb7⟩
    have B6 := C0.below.trans (C1.below.mono C0.below.size)
    have B7 := B6.trans (hb7.mono B6.size)
    have A7 := h2.later B7
    go_wp2_with fail
    refine (cloneS_of A7.eN (by omega) A7.rN A7.gN A7.nN).mono ?_
    rintro e w8 ⟨a8, c8, rfl, o1⟩
    have A8 := A7.later o1.below
    go_wp2_with fail
    refine (cloneW_of A8.eI (by omega) A8.rI A8.gI A8.nI).mono ?_
    rintro e w9 ⟨a9, c9, rfl, o2⟩
    have A9 := A8.later o2.below
    go_wp2_with fail
    refine (cloneL_of A9.eD (by omega) s2.sd A9.rD A9.gD A9.nD A9.dats).mono ?_
    rintro e w10 ⟨a10, c10, E2, rfl, o3⟩
    have C2 := cl_mk h2.eN h2.eI (by rw [← h2.dats.len, h2.eD]) (by omega) o1 o2 o3
    clear o1 o2 o3 A7 A8 A9
    have B10 := B7.trans (C2.below.mono B7.size)
    have HL := loop_start (evs_length N0 I0 E0 (by rw [h0.eI, h0.eN]) (by rw [C0.src.ld, h0.eN])) (evs_length N1 I1 E1 (by rw [h1.eI, h1.eN]) (by rw [C1.src.ld, h1.eN])) (by rw [h0.eN, h1.eN]; exact hrd) hpn hrn hb7 C2.below
    have hE2 : E2.map Sl.n = D2.map Sl.n := by rw [lens_of_dats C2.dats, lens_of_dats h2.dats]
    have hEl : ((evs N2 I2 E2).map fun e => e.dat.n) = D2.map Sl.n := by
      rw [← hE2, ← evs_dats N2 I2 E2 (by rw [h2.eI, h2.eN]) (by rw [C2.src.ld, h2.eN]), List.map_map]
      rw [evs_dats N2 I2 E2 (by rw [h2.eI, h2.eN]) (by rw [C2.src.ld, h2.eN])]
      rfl
    have HEl : Hid (((evs N2 I2 E2).map fun e => e.dat.n) = D2.map Sl.n) := hEl
    have HPl : Hid ((evs N0 I0 E0).length ≤ 65536) := by
      show _ ≤ _
      rw [evs_length N0 I0 E0 (by rw [h0.eI, h0.eN]) (by rw [C0.src.ld, h0.eN]), h0.eN]; exact b0
    clear hEl hE2
    go_wp2
    go_loopw [30] (fun i wr => ∃ k : Nat, k ≤ dl2 ∧ i = .int .i64 k ∧ LoopAt (fun b => b < w6.heap.size ∨ Span w7.heap.size w10.heap.size b) w10 w6.heap.size R c ((⟨evs N0 I0 E0, evs N1 I1 E1, a1.isNone, a4.isNone, u, cut, tok⟩ : St).run ((evs N2 I2 E2).take k)) wr) (fun i _ => dl2 - (intOf i).toNat)
    case atStart => exact ⟨0, Nat.zero_le _, rfl, HL⟩
    case round =>
      clear HL
      obtain ⟨k, hk, rfl, hl⟩ := hrel
      by_cases hlt : k < dl2
      · obtain ⟨ev, b1, o1, b2, o2, b3, o3, hev, hdv, e1, e2, e3, hcells⟩ := script_at (S := fun b => b < w6.heap.size ∨ Span w7.heap.size w10.heap.size b) C2 (fun b h => .inr h) hlt
        subst e1 e2 e3
        have hbd := run_step_bounds ⟨evs N0 I0 E0, evs N1 I1 E1, a1.isNone, a4.isNone, u, cut, tok⟩ _ _ _ hev
        rw [HEl.out] at hbd
        simp only at hbd
        have hT := T2.out
        have hPl := HPl.out
        have hdn : ev.dat.n ≤ 1048576 := by
          have := C2.dats
          obtain ⟨x, hx⟩ : ∃ x, X2[k]? = some x := ⟨X2[k]'(by rw [← h2.dats.len, h2.eD]; exact hlt), by simp⟩
          have q1 := (C2.dats.each k _ x hdv hx).len
          have hkd : k < D2.length := by rw [h2.eD]; exact hlt
          have q2 := (h2.dats.each k D2[k] x (by simp) hx).len
          have q3 := s2.sd k hkd
          omega
        obtain ⟨p1, p2, p3⟩ := hbd
        have hst := take_snoc _ _ _ hev
        have HST : Hid ((evs N2 I2 E2).take (k + 1) = (evs N2 I2 E2).take k ++ [ev]) := hst
        have HEV : Hid ((evs N2 I2 E2)[k]? = some ev) := hev
        have HC : Hid (∀ w : World, Same (fun b => b < w6.heap.size ∨ Span w7.heap.size w10.heap.size b) w10 w → w.cell? ⟨b1, o1 + k, none⟩ = some (.string ev.name) ∧ w.cell? ⟨b2, o2 + k, none⟩ = some (.int .u64 ev.id) ∧ w.cell? ⟨b3, o3 + k, none⟩ = some (.slice ev.dat.a ev.dat.n ev.dat.c)) := hcells
        clear hst hev hcells hdv
        have hlt' : (k : Int) < (dl2 : Int) := by omega
        obtain ⟨z1, z2, z3⟩ := HC.out wr hl.same
        clear h0 h1 h2 s0 s1 s2 C0 C1 C2 hrd hpn hrn hb7 B6 B7 B10
        go_wp2
        go_region_with (go_at_call 14; go_must (refine (queue_step (hl.later (Below.refl _ _).drew) ev (by omega) (by omega) (by omega) (by omega)).mono ?_; rintro e' w' ⟨rfl, hl'⟩))
        all_goals go_wp2
        all_goals go_roundw
        all_goals first
          | (case rel => exact ⟨k + 1, by omega, by go_num, by rw [HST.out, St.run_snoc]; assumption⟩)
          | (case measure => simp [intOf]; omega)
      · have hlF : LoopAt (fun b => b < w6.heap.size ∨ Span w7.heap.size w10.heap.size b) w10 w6.heap.size R c ((⟨evs N0 I0 E0, evs N1 I1 E1, a1.isNone, a4.isNone, u, cut, tok⟩ : St).run (evs N2 I2 E2)) wr := by
          have := hl
          rw [List.take_of_length_le (by rw [evs_length N2 I2 E2 (by rw [h2.eI, h2.eN]) (by rw [C2.src.ld, h2.eN]), h2.eN]; omega)] at this
          exact this
        clear hl
        obtain ⟨pa', pc', ra', rc', hrd', hpn', hrn', hsm, hsep, hH, hbl⟩ := hlF
        have lP : (evs N0 I0 E0).length = dl0 := by rw [evs_length N0 I0 E0 (by rw [h0.eI, h0.eN]) (by rw [C0.src.ld, h0.eN]), h0.eN]
        have lQ : (evs N1 I1 E1).length = dl1 := by rw [evs_length N1 I1 E1 (by rw [h1.eI, h1.eN]) (by rw [C1.src.ld, h1.eN]), h1.eN]
        have lE : (evs N2 I2 E2).length = dl2 := by rw [evs_length N2 I2 E2 (by rw [h2.eI, h2.eN]) (by rw [C2.src.ld, h2.eN]), h2.eN]
        have BR : Below w.heap.size w wr := B10.trans (hbl.mono B6.size)
        have q6 := C1.below.size
        have q7 := hb7.size
        have q10 := C2.below.size
        have B37 : Below w3.heap.size w3 w10 := (C1.below.trans (hb7.mono q6)).trans (C2.below.mono (by omega))
        have B67 : Below w6.heap.size w6 w10 := hb7.trans (C2.below.mono q7)
        have d0 : DatsAt wr (fun b => b < w6.heap.size ∨ Span w7.heap.size w10.heap.size b) E0 X0 :=
          ((C0.dats.same (Same.of_below B37 (fun b h => h.2))).mono (fun b h => .inl (by have := h.2; omega))).same hsm
        have d1 : DatsAt wr (fun b => b < w6.heap.size ∨ Span w7.heap.size w10.heap.size b) E1 X1 :=
          ((C1.dats.same (Same.of_below B67 (fun b h => h.2))).mono (fun b h => .inl h.2)).same hsm
        have d2 : DatsAt wr (fun b => b < w6.heap.size ∨ Span w7.heap.size w10.heap.size b) E2 X2 :=
          (C2.dats.mono (fun b h => .inr h)).same hsm
        have hSlt : ∀ b, (fun b => b < w6.heap.size ∨ Span w7.heap.size w10.heap.size b) b → b < wr.heap.size := fun b h => (hsep b h).1
        have x0 : E0.length = N0.length := by rw [C0.src.ld, h0.eN]
        have x1 : E1.length = N1.length := by rw [C1.src.ld, h1.eN]
        have x2 : E2.length = N2.length := by rw [C2.src.ld, h2.eN]
        have nil0 : a1.isNone = n0a.isNone := C0.nil
        have nil1 : a4.isNone = n1a.isNone := C1.nil
        have hrnil : n1a = none → dl1 = 0 := fun h => (h1.nN h).1
        clear C0 C1 C2 hrd hpn hrn hb7 B6 B7 B10 B37 B67 hsm hsep hbl hH q6 q7 q10
        have G0 := h0.later BR
        have G1 := h1.later BR
        have G2 := h2.later BR
        clear h0 h1 h2
        have q22 : ∀ (w : World) (a : Option Addr) (n c n' c' : Nat), (binOp .eql 22 (.slice a n c) (.slice none n' c')).run Try.prog w = .ok (.bool a.isNone) w := fun w a n c n' c' => Lib.run_eql_slice_nil w _ _ a n c n' c' Try.underlying22
        generalize (fun b => b < w6.heap.size ∨ Span w7.heap.size w10.heap.size b) = S at *
        have hcs := run_cases ⟨evs N0 I0 E0, evs N1 I1 E1, a1.isNone, a4.isNone, u, cut, tok⟩ (evs N2 I2 E2)
        rw [HEl.out, lE] at hcs
        simp only at hcs
        rcases hcs with ⟨hA, hrun⟩ | ⟨hc0, hpos, hsc, hrun⟩ | ⟨hc0, hpos, hsc, hrun⟩
        · -- nothing was queued
          rw [hrun] at hrd' hpn' hrn'
          simp only at hrd' hpn' hrn'
          rw [nil0] at hpn'
          rw [nil1] at hrn'
          have hor : ((cut != 0) = true) ∨ ((cut != 0) = false ∧ ((dl2 : Int) == 0) = true) := by
            rcases hA with h | h
            · exact .inl (by simpa using h)
            · by_cases hc : cut = 0
              · exact .inr ⟨by simp [hc], by simp [h]⟩
              · exact .inl (by simpa using hc)
          have HO : Hid (((cut != 0) = true) ∨ ((cut != 0) = false ∧ ((dl2 : Int) == 0) = true)) := hor
          clear hA hrun hor nil0 nil1 T2 HEl HPl
          go_wp2_with fail
          refine (pending_of lP hrd' (by omega)).mono ?_
          rintro e w11 ⟨rfl, f1, f2, f3, fs, fb⟩
          have tP : Three w11 wr.heap.size (evs N0 I0 E0) := ⟨f1, f2, f3, fs⟩
          have r11 := hrd'.later fb
          clear f1 f2 f3 fs
          go_wp2_with fail
          refine (replay_of lQ r11 (by omega)).mono ?_
          rintro e w12 ⟨rfl, f1, f2, f3, fs, gb⟩
          have tQ : Three w12 w11.heap.size (evs N1 I1 E1) := ⟨f1, f2, f3, fs⟩
          have r12 := r11.later gb
          have tP2 := tP.later gb
          clear f1 f2 f3 fs tP
          have b12 : Below wr.heap.size wr w12 := fb.trans (gb.mono fb.size)
          go_wp2_with fail
          refine (unsent_any r12).mono ?_
          rintro e w9 ⟨rfl, hw9⟩
          rw [hw9]
          clear hw9
          go_wp2_with fail
          refine (cut_any r12).mono ?_
          rintro e w9 ⟨rfl, hw9⟩
          rw [hw9]
          clear hw9
          go_wp2_with fail
          refine (token_any r12).mono ?_
          rintro e w9 ⟨rfl, hw9⟩
          rw [hw9]
          clear hw9
          go_wp2_with fail
          refine (are_one (S := S) (G1.later b12) s1 x1 tQ.r1 tQ.r2 tQ.r3 (dats_later d1 hSlt b12)).mono ?_
          rintro e w13 ⟨rfl, m, hm⟩
          subst hm
          have b13 : Below wr.heap.size wr (w12.drewN m) := b12.trans ((below_drewN' w12 m).mono b12.size)
          have tP3 := tP2.later (below_drewN' w12 m)
          rcases HO.out with g1 | ⟨g1, g2⟩
          all_goals (
            go_wp2_with fail
            refine (are_one (S := S) (G0.later b13) s0 x0 tP3.r1 tP3.r2 tP3.r3 (dats_later d0 hSlt b13)).mono ?_
            rintro e w14 ⟨rfl, m', hm'⟩
            subst hm'
            have b14 : Below w.heap.size w ((w12.drewN m).drewN m') := BR.trans ((b13.trans ((below_drewN' (w12.drewN m) m').mono b13.size)).mono BR.size)
            go_wp2
            go_ret
            exact ⟨by simp, by rw [← World.drewN_drewN]; exact b14⟩)
        · -- every event was taken
          rw [hrun] at hrd' hpn' hrn'
          simp only at hrd' hpn' hrn'
          rw [nil1] at hrn'
          subst hc0
          have lPE : (evs N0 I0 E0 ++ evs N2 I2 E2).length = dl0 + dl2 := by rw [List.length_append, lP, lE]
          have HSC : Hid ((scan u (D2.map Sl.n)).2 = false) := hsc
          have gz : ((dl2 : Int) == 0) = false := by rw [beq_eq_false_iff_ne]; omega
          obtain ⟨v, hv⟩ : ∃ v, v = (scan u (D2.map Sl.n)).1 := ⟨_, rfl⟩
          rw [← hv] at hrd'
          have HV : Hid (v = (scan u (D2.map Sl.n)).1) := hv
          have TT : Hid (tot 0 (D2.map Sl.n) ≤ 1048576) := T2
          clear hrun hv hsc nil0 nil1 T2 HEl HPl hpn'
          go_wp2_with fail
          refine (pending_of lPE hrd' (by omega)).mono ?_
          rintro e w11 ⟨rfl, f1, f2, f3, fs, fb⟩
          have tP : Three w11 wr.heap.size (evs N0 I0 E0 ++ evs N2 I2 E2) := ⟨f1, f2, f3, fs⟩
          have r11 := hrd'.later fb
          clear f1 f2 f3 fs
          go_wp2_with fail
          refine (replay_of lQ r11 (by omega)).mono ?_
          rintro e w12 ⟨rfl, f1, f2, f3, fs, gb⟩
          have tQ : Three w12 w11.heap.size (evs N1 I1 E1) := ⟨f1, f2, f3, fs⟩
          have r12 := r11.later gb
          have tP2 := tP.later gb
          clear f1 f2 f3 fs tP
          have b12 : Below wr.heap.size wr w12 := fb.trans (gb.mono fb.size)
          go_wp2_with fail
          refine (unsent_any r12).mono ?_
          rintro e w9 ⟨rfl, hw9⟩
          rw [hw9]
          clear hw9
          go_wp2_with fail
          refine (cut_any r12).mono ?_
          rintro e w9 ⟨rfl, hw9⟩
          rw [hw9]
          clear hw9
          go_wp2_with fail
          refine (token_any r12).mono ?_
          rintro e w9 ⟨rfl, hw9⟩
          rw [hw9]
          clear hw9
          go_wp2_with fail
          refine (are_one (S := S) (G1.later b12) s1 x1 tQ.r1 tQ.r2 tQ.r3 (dats_later d1 hSlt b12)).mono ?_
          rintro e w13 ⟨rfl, m, hm⟩
          subst hm
          have b13 : Below wr.heap.size wr (w12.drewN m) := b12.trans ((below_drewN' w12 m).mono b12.size)
          have tP3 := tP2.later (below_drewN' w12 m)
          have GD : Hid (Arg (w12.drewN m) n2a i2a d2a n2c i2c d2c dl2 dl2 dl2 N2 I2 D2 X2) := G2.later b13
          have GP : Hid (Arg (w12.drewN m) n0a i0a d0a n0c i0c d0c dl0 dl0 dl0 N0 I0 D0 X0) := G0.later b13
          have dP := dats_later d0 hSlt b13
          have dE := dats_later d2 hSlt b13
          have BW : Below w.heap.size w (w12.drewN m) := BR.trans (b13.mono BR.size)
          clear G0 G1 G2 d0 d1 d2 tP2 tQ r11 r12 hrd' b12 b13 fb gb
          go_wp2
          go_loop [43, 44, 45] (fun t o j => ∃ (k : Nat) (z : Int) (b : Bool), k ≤ dl2 ∧ j = .int .i64 k ∧ t = .int .i64 z ∧ o = .bool b ∧ u ≤ z ∧ z ≤ 9223372036854775807 ∧ Hid (z = u + tot 0 ((D2.map Sl.n).take k)) ∧ Hid (scan u (D2.map Sl.n) = if b then (z, true) else scan z ((D2.map Sl.n).drop k))) (fun _ _ j => dl2 - (intOf j).toNat)
          case atStart => exact ⟨0, u, false, Nat.zero_le _, rfl, rfl, rfl, Int.le_refl _, by omega, by simp [Hid, tot], by simp [Hid]⟩
          case round =>
            obtain ⟨k, z, b, hk, rfl, rfl, rfl, hz0, hz1, hz, hsn⟩ := hrel
            cases b with
            | true =>
              exact absurd HSC.out (by rw [hsn.out]; simp)
            | false =>
              by_cases hlt2 : k < dl2
              · have hkD : k < D2.length := by rw [GD.out.eD]; exact hlt2
                obtain ⟨b1, o1, e1, c1'⟩ := GD.out.rD k (by simpa using hkD)
                subst e1
                simp only [List.getElem_map, Sl.v] at c1'
                have hts := tot_take_succ 0 (D2.map Sl.n) k (by simpa using hkD)
                have htl := tot_take_le 0 (D2.map Sl.n) (k + 1)
                have hdr : (D2.map Sl.n).drop k = D2[k].n :: (D2.map Sl.n).drop (k + 1) := by
                  rw [← List.getElem_cons_drop (by simpa using hkD)]; simp
                simp only [List.getElem_map] at hts
                have hTT := TT.out
                have hzz := hz.out
                have HTS : Hid (tot 0 ((D2.map Sl.n).take (k + 1)) = tot 0 ((D2.map Sl.n).take k) + (0 + D2[k].n)) := hts
                have HDR : Hid ((D2.map Sl.n).drop k = D2[k].n :: (D2.map Sl.n).drop (k + 1)) := hdr
                have hzx : z + (D2[k].n : Int) ≤ 9223372036854775807 := by omega
                clear hts htl hdr hTT hzz
                generalize D2[k] = sd at c1' HTS HDR hzx
                obtain ⟨sa, sn, sc⟩ := sd
                simp only at c1' HTS HDR hzx
                have hlt2' : (k : Int) < (dl2 : Int) := by omega
                by_cases hov : 16777216 < z + (sn : Int)
                · have hd : decide (16777216 < z + (sn : Int)) = true := decide_eq_true hov
                  go_wp2
                  go_round
                  case rel => exact ⟨k + 1, _, true, by omega, by go_num, rfl, by first | rfl | simp [hov], by omega, by omega, by have := hz.out; have := HTS.out; show _ = _; omega, by show _ = _; rw [hsn.out, HDR.out, if_neg (by simp), scan_over hov]; rfl⟩
                  case measure => simp [intOf]; omega
                · have hov' : z + (sn : Int) ≤ 16777216 := by omega
                  have hd : decide (16777216 < z + (sn : Int)) = false := decide_eq_false hov
                  go_wp2
                  go_round
                  case rel => exact ⟨k + 1, _, false, by omega, by go_num, rfl, by first | rfl | simp [hov], by omega, by omega, by have := hz.out; have := HTS.out; show _ = _; omega, by show _ = _; rw [hsn.out, HDR.out, if_neg (by simp), scan_take hov']; rfl⟩
                  case measure => simp [intOf]; omega
              · have hend : scan u (D2.map Sl.n) = (z, false) := by
                  rw [hsn.out, if_neg (by simp), List.drop_of_length_le (by rw [List.length_map, GD.out.eD]; omega)]; rfl
                have hvz : v = z := by rw [HV.out, hend]
                subst hvz
                clear hend hsn hz HSC HV
                go_wp2_with fail
                refine (are_two (S := S) GP.out s0 GD.out s2 x0 x2 tP3.r1 tP3.r2 tP3.r3 dP dE _ rfl).mono ?_
                rintro e w14 ⟨rfl, m', hm'⟩
                subst hm'
                have b14 : Below w.heap.size w ((w12.drewN m).drewN m') := BW.trans ((below_drewN' (w12.drewN m) m').mono BW.size)
                go_wp2
                go_ret
                exact ⟨by simp, by rw [← World.drewN_drewN]; exact b14⟩
        · -- cut at the first that passes
          rw [hrun] at hrd' hpn' hrn'
          simp only at hrd' hpn' hrn'
          subst hc0
          have HSC : Hid ((scan u (D2.map Sl.n)).2 = true) := hsc
          have gz : ((dl2 : Int) == 0) = false := by rw [beq_eq_false_iff_ne]; omega
          obtain ⟨v, hv⟩ : ∃ v, v = (scan u (D2.map Sl.n)).1 := ⟨_, rfl⟩
          rw [← hv] at hrd'
          have HV : Hid (v = (scan u (D2.map Sl.n)).1) := hv
          have TT : Hid (tot 0 (D2.map Sl.n) ≤ 1048576) := T2
          clear hrun hv hsc nil0 nil1 T2 HEl HPl lP lQ lE d0 d1 d2 x0 x1 x2 G0 G1 s0 s1
          go_wp2_with fail
          refine (pending_of (n := 0) rfl hrd' (by omega)).mono ?_
          rintro e w11 ⟨rfl, f1, f2, f3, fs, fb⟩
          have tP : Three w11 wr.heap.size [] := ⟨f1, f2, f3, fs⟩
          have r11 := hrd'.later fb
          clear f1 f2 f3 fs
          go_wp2_with fail
          refine (replay_of (n := 0) rfl r11 (by omega)).mono ?_
          rintro e w12 ⟨rfl, f1, f2, f3, fs, gb⟩
          have tQ : Three w12 w11.heap.size [] := ⟨f1, f2, f3, fs⟩
          have r12 := r11.later gb
          have tP2 := tP.later gb
          clear f1 f2 f3 fs tP
          have b12 : Below wr.heap.size wr w12 := fb.trans (gb.mono fb.size)
          go_wp2_with fail
          refine (unsent_any r12).mono ?_
          rintro e w9 ⟨rfl, hw9⟩
          rw [hw9]
          clear hw9
          go_wp2_with fail
          refine (cut_any r12).mono ?_
          rintro e w9 ⟨rfl, hw9⟩
          rw [hw9]
          clear hw9
          go_wp2_with fail
          refine (token_any r12).mono ?_
          rintro e w9 ⟨rfl, hw9⟩
          rw [hw9]
          clear hw9
          have GD : Hid (Arg w12 n2a i2a d2a n2c i2c d2c dl2 dl2 dl2 N2 I2 D2 X2) := G2.later b12
          have BW : Below w.heap.size w w12 := BR.trans (b12.mono BR.size)
          clear G2 tP2 tQ r11 r12 hrd' b12 fb gb
          cases hn1 : n1a with
          | none =>
            have hz1 := hrnil hn1
            subst hn1
            subst hz1
            clear hrnil
            go_wp2_with fail
            refine are_none.mono ?_
            rintro e w13 ⟨rfl, m, hm⟩
            subst hm
            have GD2 := GD.out.later (below_drewN' w12 m)
            have BW2 : Below w.heap.size w (w12.drewN m) := BW.trans ((below_drewN' w12 m).mono BW.size)
            clear GD BW
            have GD : Hid (Arg (w12.drewN m) n2a i2a d2a n2c i2c d2c dl2 dl2 dl2 N2 I2 D2 X2) := GD2
            clear GD2
            go_wp2
            go_loop [43, 44, 45] (fun t o j => ∃ (k : Nat) (z : Int) (b : Bool), k ≤ dl2 ∧ j = .int .i64 k ∧ t = .int .i64 z ∧ o = .bool b ∧ u ≤ z ∧ z ≤ 9223372036854775807 ∧ Hid (z = u + tot 0 ((D2.map Sl.n).take k)) ∧ Hid (scan u (D2.map Sl.n) = if b then (z, true) else scan z ((D2.map Sl.n).drop k))) (fun _ _ j => dl2 - (intOf j).toNat)
            case atStart => exact ⟨0, u, false, Nat.zero_le _, rfl, rfl, rfl, Int.le_refl _, by omega, by simp [Hid, tot], by simp [Hid]⟩
            case round =>
              obtain ⟨k, z, b, hk, rfl, rfl, rfl, hz0, hz1, hz, hsn⟩ := hrel
              cases b with
              | true =>
                have hvz : v = z := by rw [HV.out, hsn.out]; rfl
                subst hvz
                clear hsn hz HSC HV
                go_wp2
                all_goals (
                  go_ret
                  exact ⟨by simp, BW2⟩)
              | false =>
                by_cases hlt2 : k < dl2
                · have hkD : k < D2.length := by rw [GD.out.eD]; exact hlt2
                  obtain ⟨b1, o1, e1, c1'⟩ := GD.out.rD k (by simpa using hkD)
                  subst e1
                  simp only [List.getElem_map, Sl.v] at c1'
                  have hts := tot_take_succ 0 (D2.map Sl.n) k (by simpa using hkD)
                  have htl := tot_take_le 0 (D2.map Sl.n) (k + 1)
                  have hdr : (D2.map Sl.n).drop k = D2[k].n :: (D2.map Sl.n).drop (k + 1) := by
                    rw [← List.getElem_cons_drop (by simpa using hkD)]; simp
                  simp only [List.getElem_map] at hts
                  have hTT := TT.out
                  have hzz := hz.out
                  have HTS : Hid (tot 0 ((D2.map Sl.n).take (k + 1)) = tot 0 ((D2.map Sl.n).take k) + (0 + D2[k].n)) := hts
                  have HDR : Hid ((D2.map Sl.n).drop k = D2[k].n :: (D2.map Sl.n).drop (k + 1)) := hdr
                  have hzx : z + (D2[k].n : Int) ≤ 9223372036854775807 := by omega
                  clear hts htl hdr hTT hzz
                  generalize D2[k] = sd at c1' HTS HDR hzx
                  obtain ⟨sa, sn, sc⟩ := sd
                  simp only at c1' HTS HDR hzx
                  have hlt2' : (k : Int) < (dl2 : Int) := by omega
                  by_cases hov : 16777216 < z + (sn : Int)
                  · have hd : decide (16777216 < z + (sn : Int)) = true := decide_eq_true hov
                    go_wp2
                    go_round
                    case rel => exact ⟨k + 1, _, true, by omega, by go_num, rfl, by first | rfl | simp [hov], by omega, by omega, by have := hz.out; have := HTS.out; show _ = _; omega, by show _ = _; rw [hsn.out, HDR.out, if_neg (by simp), scan_over hov]; rfl⟩
                    case measure => simp [intOf]; omega
                  · have hov' : z + (sn : Int) ≤ 16777216 := by omega
                    have hd : decide (16777216 < z + (sn : Int)) = false := decide_eq_false hov
                    go_wp2
                    go_round
                    case rel => exact ⟨k + 1, _, false, by omega, by go_num, rfl, by first | rfl | simp [hov], by omega, by omega, by have := hz.out; have := HTS.out; show _ = _; omega, by show _ = _; rw [hsn.out, HDR.out, if_neg (by simp), scan_take hov']; rfl⟩
                    case measure => simp [intOf]; omega
                · have hend : scan u (D2.map Sl.n) = (z, false) := by
                    rw [hsn.out, if_neg (by simp), List.drop_of_length_le (by rw [List.length_map, GD.out.eD]; omega)]; rfl
                  exact absurd HSC.out (by rw [hend]; simp)
          | some ad1 =>
            subst hn1
            clear hrnil
            go_wp2
            go_loop [43, 44, 45] (fun t o j => ∃ (k : Nat) (z : Int) (b : Bool), k ≤ dl2 ∧ j = .int .i64 k ∧ t = .int .i64 z ∧ o = .bool b ∧ u ≤ z ∧ z ≤ 9223372036854775807 ∧ Hid (z = u + tot 0 ((D2.map Sl.n).take k)) ∧ Hid (scan u (D2.map Sl.n) = if b then (z, true) else scan z ((D2.map Sl.n).drop k))) (fun _ _ j => dl2 - (intOf j).toNat)
            case atStart => exact ⟨0, u, false, Nat.zero_le _, rfl, rfl, rfl, Int.le_refl _, by omega, by simp [Hid, tot], by simp [Hid]⟩
            case round =>
              obtain ⟨k, z, b, hk, rfl, rfl, rfl, hz0, hz1, hz, hsn⟩ := hrel
              cases b with
              | true =>
                have hvz : v = z := by rw [HV.out, hsn.out]; rfl
                subst hvz
                clear hsn hz HSC HV
                go_wp2
                all_goals (
                  go_ret
                  exact ⟨by simp, BW⟩)
              | false =>
                by_cases hlt2 : k < dl2
                · have hkD : k < D2.length := by rw [GD.out.eD]; exact hlt2
                  obtain ⟨b1, o1, e1, c1'⟩ := GD.out.rD k (by simpa using hkD)
                  subst e1
                  simp only [List.getElem_map, Sl.v] at c1'
                  have hts := tot_take_succ 0 (D2.map Sl.n) k (by simpa using hkD)
                  have htl := tot_take_le 0 (D2.map Sl.n) (k + 1)
                  have hdr : (D2.map Sl.n).drop k = D2[k].n :: (D2.map Sl.n).drop (k + 1) := by
                    rw [← List.getElem_cons_drop (by simpa using hkD)]; simp
                  simp only [List.getElem_map] at hts
                  have hTT := TT.out
                  have hzz := hz.out
                  have HTS : Hid (tot 0 ((D2.map Sl.n).take (k + 1)) = tot 0 ((D2.map Sl.n).take k) + (0 + D2[k].n)) := hts
                  have HDR : Hid ((D2.map Sl.n).drop k = D2[k].n :: (D2.map Sl.n).drop (k + 1)) := hdr
                  have hzx : z + (D2[k].n : Int) ≤ 9223372036854775807 := by omega
                  clear hts htl hdr hTT hzz
                  generalize D2[k] = sd at c1' HTS HDR hzx
                  obtain ⟨sa, sn, sc⟩ := sd
                  simp only at c1' HTS HDR hzx
                  have hlt2' : (k : Int) < (dl2 : Int) := by omega
                  by_cases hov : 16777216 < z + (sn : Int)
                  · have hd : decide (16777216 < z + (sn : Int)) = true := decide_eq_true hov
                    go_wp2
                    go_round
                    case rel => exact ⟨k + 1, _, true, by omega, by go_num, rfl, by first | rfl | simp [hov], by omega, by omega, by have := hz.out; have := HTS.out; show _ = _; omega, by show _ = _; rw [hsn.out, HDR.out, if_neg (by simp), scan_over hov]; rfl⟩
                    case measure => simp [intOf]; omega
                  · have hov' : z + (sn : Int) ≤ 16777216 := by omega
                    have hd : decide (16777216 < z + (sn : Int)) = false := decide_eq_false hov
                    go_wp2
                    go_round
                    case rel => exact ⟨k + 1, _, false, by omega, by go_num, rfl, by first | rfl | simp [hov], by omega, by omega, by have := hz.out; have := HTS.out; show _ = _; omega, by show _ = _; rw [hsn.out, HDR.out, if_neg (by simp), scan_take hov']; rfl⟩
                    case measure => simp [intOf]; omega
                · have hend : scan u (D2.map Sl.n) = (z, false) := by
                    rw [hsn.out, if_neg (by simp), List.drop_of_length_le (by rw [List.length_map, GD.out.eD]; omega)]; rfl
                  exact absurd HSC.out (by rw [hend]; simp)

end Go.Proofs.Qxb6613968a
