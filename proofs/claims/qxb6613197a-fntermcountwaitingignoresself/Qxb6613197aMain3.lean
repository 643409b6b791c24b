/-
  Seat b6613197a. The walk of FnTermCountWaitingIgnoresSelf (3). By an AI agent.
-/
import Derived.Test.Qxb6613197aBytes5
import Derived.Test.Qxb6613197aZzWait
import Derived.Test.Qxb6613197aPlain3
import Derived.OwnWalk
namespace Go.Proofs.Qxb6613197a
open Go.RowKit
set_option linter.unusedVariables false
set_option linter.unusedSimpArgs false

theorem below_drewN' (w : World) (m : Nat) : Below w.heap.size w (w.drewN m) := by
  induction m with
  | zero => exact Below.refl _ _
  | succ m ih => exact ih.drew

/-- the first k names, as values (a name of its own, so that the walk lets it be) -/
def takeS (N : List ByteArray) (k : Nat) : List Value := (N.take k).map Value.string
/-- the first k names and one put in, as values -/
def insS (N : List ByteArray) (p k : Nat) (s : ByteArray) : List Value := (ins N p k s).map Value.string
theorem takeS_snoc (N : List ByteArray) (k : Nat) (x : ByteArray) (h : N[k]? = some x) : takeS N (k + 1) = takeS N k ++ [.string x] := by
  unfold takeS
  rw [take_snoc N k x h, List.map_append]
  rfl
theorem insS_start (N : List ByteArray) (p : Nat) (s : ByteArray) : insS N p p s = takeS N p ++ [.string s] := by
  unfold insS takeS
  rw [ins_start, List.map_append]
  rfl
theorem insS_snoc (N : List ByteArray) (p k : Nat) (s x : ByteArray) (hp : p ≤ k) (h : N[k]? = some x) : insS N p (k + 1) s = insS N p k s ++ [.string x] := by
  unfold insS
  rw [ins_snoc N p k s x hp h, List.map_append]
  rfl

/-- how many of the first k names are not s -/
def cnt (N : List ByteArray) (s : ByteArray) (k : Nat) : Nat := (without (N.take k) s).length
theorem cnt_le (N : List ByteArray) (s : ByteArray) (k : Nat) : cnt N s k ≤ k := Nat.le_trans (without_le _ _) (List.length_take_le _ _)
theorem cnt_zero (N : List ByteArray) (s : ByteArray) : cnt N s 0 = 0 := by simp [cnt, without]
theorem cnt_all (N : List ByteArray) (s : ByteArray) : cnt N s N.length = (without N s).length := by rw [cnt, List.take_length]
theorem cnt_yes {N : List ByteArray} {s x : ByteArray} {k : Nat} (h : N[k]? = some x) (hx : (x.toList == s.toList) = true) : cnt N s (k + 1) = cnt N s k := by
  rw [cnt, take_snoc N k x h, without_snoc, hx, cnt]
  simp
theorem cnt_no {N : List ByteArray} {s x : ByteArray} {k : Nat} (h : N[k]? = some x) (hx : (x.toList == s.toList) = false) : cnt N s (k + 1) = cnt N s k + 1 := by
  rw [cnt, take_snoc N k x h, without_snoc, hx, cnt]
  simp

set_option maxHeartbeats 4000000 in
set_option maxRecDepth 100000 in
theorem main3_any (N0 : List ByteArray) (S0 : ByteArray) (n0a : Option Addr) (n0c : Nat) (i1 : Int) (w : World)
    (bN0 : N0.length ≤ maxLen) (sN0 : ∀ i, (h : i < N0.length) → N0[i].size ≤ maxLen) (rN0 : RowAt w n0a (N0.map Value.string)) (hN0 : Held (· < w.heap.size) n0a N0.length) (nN0 : n0a = none → N0.length = 0 ∧ n0c = 0)
    (bS0 : S0.size ≤ maxLen) (bi : -9223372036854775808 ≤ i1 ∧ i1 ≤ 9223372036854775807) :
    Calls Try.prog 3 #[.slice n0a N0.length n0c, .string S0, .int .i64 i1] w fun e w' => e = .returned (.bool true) ∧ Below w.heap.size w w' := by
  obtain ⟨i0, hi0, hz0, hz1, hz2⟩ := info_parts Try.info9
  go_enter Try.func3, Try.ntmps3
  go_wp2_with fail
  refine (bytes5_any N0 S0 n0a n0c i1 w bN0 sN0 rN0 bS0).mono ?_
  rintro e w9 ⟨⟨b, rfl, hb⟩, hw9⟩
  rw [hw9]
  clear hw9 w9
  cases b
  case false =>
    go_wp2
    go_ret
    exact ⟨rfl, Below.refl _ _⟩
  obtain ⟨⟨l0, s0⟩, q0⟩ := hb rfl
  clear hb bN0 sN0 bS0
  by_cases m0 : N0.length ≤ 4096
  case neg =>
    go_wp2
    go_ret
    exact ⟨rfl, Below.refl _ _⟩
  go_wp2
  go_loop [7, 8] (fun t i => ∃ (k : Nat) (z : Int), k ≤ N0.length ∧ i = .int .i64 k ∧ t = .int .i64 z ∧ 0 ≤ z ∧ z ≤ 1048576) (fun _ i => N0.length - (intOf i).toNat)
  case atStart => exact ⟨0, _, Nat.zero_le _, rfl, rfl, by omega, by omega⟩
  case round =>
    obtain ⟨k0, z0, hk0, rfl, rfl, hz00, hz10⟩ := hrel
    by_cases hlt0 : k0 < N0.length
    case pos =>
      obtain ⟨b, off, e, hc⟩ := rN0 k0 (by simpa using hlt0)
      subst e
      have hsz := s0 k0 hlt0
      simp only [List.getElem_map] at hc
      generalize N0[k0] = s at hc hsz
      clear rN0 hN0 s0 nN0
      by_cases hb2 : z0 + (16 + (s.size : Int)) ≤ 1048576
      case neg =>
        go_wp2
        go_ret
        exact ⟨rfl, Below.refl _ _⟩
      go_wp2
      go_round
      case rel => exact ⟨k0 + 1, _, by omega, by go_num, rfl, by omega, by omega⟩
      case measure => simp [intOf]; omega
    by_cases t1 : 0 ≤ i1
    case neg =>
      go_wp2
      go_ret
      exact ⟨rfl, Below.refl _ _⟩
    by_cases t2 : i1 ≤ (N0.length : Int)
    case neg =>
      go_wp2
      go_ret
      exact ⟨rfl, Below.refl _ _⟩
    obtain ⟨p, rfl⟩ := Int.eq_ofNat_of_zero_le t1
    have hp : p ≤ N0.length := by omega
    clear bi
    go_wp2_with fail
    refine (clone_any N0 n0a n0c w l0 nN0 hN0 rN0).mono ?_
    rintro e wa ⟨aa, ac, rfl, _, _, ra, ha, ba⟩
    rw [List.length_map] at *
    have sa : w.heap.size ≤ wa.heap.size := ba.size
    go_wp2_with (at_make; refine wpList_make_own _ rfl _ _ 22 rfl wa.heap.size 9 i0 _ 1 Try.underlying22 hi0 hz0 hz1 .i64 .i64 _ (N0.length + 1) rfl rfl (by omega) (by rw [hz2]; omega) (by unfold maxLen; omega) (Nat.le_refl _) ?_)
    intro wm hown0 hgrow0
    have hbm : Below wa.heap.size wa wm := (Below.refl _ wa).grown hgrow0 (Nat.le_refl _) (fun k e => by cases e)
    clear hgrow0
    go_wp2
    go_loopw [10, 11] (fun v i wr => ∃ k : Nat, k ≤ p ∧ i = .int .i64 k ∧ wr.ownsRow wa.heap.size 9 1 v k (takeS N0 k) ∧ Below wa.heap.size wa wr) (fun _ i _ => p - (intOf i).toNat)
    case atStart => exact ⟨0, Nat.zero_le _, rfl, (by rw [show takeS N0 0 = [] by simp [takeS]]; exact hown0), hbm⟩
    case round =>
      clear hown0 hbm
      obtain ⟨k1, hk1, rfl, hown, hb⟩ := hrel
      have hsz := hb.size
      by_cases hlt1 : k1 < p
      case pos =>
        have hkL : k1 < N0.length := by omega
        obtain ⟨b, off, e, hc⟩ := rN0 k1 (by simpa using hkL)
        subst e
        have hc' := ((ba.trans (hb.mono sa)).cell (p := ⟨b, off + k1, none⟩) (hN0 (by omega) b off rfl)).trans hc
        simp only [List.getElem_map] at hc'
        have HW : Hid (takeS N0 (k1 + 1) = takeS N0 k1 ++ [.string N0[k1]]) := takeS_snoc N0 k1 N0[k1] (by simp)
        generalize N0[k1] = x at hc' HW
        have hlt' : (k1 : Int) < (p : Int) := by omega
        clear hc rN0 ra hN0 nN0 s0
        go_wp2_with (at_builtin; refine wpList_append_own _ rfl _ _ 22 rfl wa.heap.size 9 i0 _ 1 16 Try.underlying22 hi0 hz0 hz1 hz2 rfl (by decide) _ _ _ rfl (hown.alloc _) ⟨wr.heap.size, 0, none⟩ 1 1 [.string x] rfl rfl (cell_one_new _ _ _) ?c2 ?c3 ?c4 ?c5 ?_)
        case c2 => intro u hu; simp at hu; subst hu; rfl
        case c3 => unfold maxLen; omega
        case c4 => omega
        case c5 => simp; omega
        intro v' w1 hown' hgrow _
        have hb1 : Below wa.heap.size wa w1 := (hb.alloc hsz _).grown hgrow (by simp; omega) (fun k' e => (hown.lt k' e).1)
        have HO : Hid (w1.ownsRow wa.heap.size 9 1 v' (k1 + 1) (takeS N0 (k1 + 1))) := by
          rw [HW.out]
          exact hown'
        clear hown' hgrow hown
        go_wp2
        go_roundw
        case rel => exact ⟨k1 + 1, by omega, by go_num, HO.out, hb1⟩
        case measure => simp [intOf]; omega
      have hk1p : k1 = p := by omega
      subst hk1p
      go_wp2_with (at_builtin; refine wpList_append_own _ rfl _ _ 22 rfl wa.heap.size 9 i0 _ 1 16 Try.underlying22 hi0 hz0 hz1 hz2 rfl (by decide) _ _ _ rfl (hown.alloc _) ⟨wr.heap.size, 0, none⟩ 1 1 [.string S0] rfl rfl (cell_one_new _ _ _) ?c2 ?c3 ?c4 ?c5 ?_)
      case c2 => intro u hu; simp at hu; subst hu; rfl
      case c3 => unfold maxLen; omega
      case c4 => omega
      case c5 => simp; omega
      intro v' w1 hown' hgrow _
      have hb1 : Below wa.heap.size wa w1 := (hb.alloc hsz _).grown hgrow (by simp; omega) (fun k' e => (hown.lt k' e).1)
      have HO : Hid (w1.ownsRow wa.heap.size 9 1 v' (k1 + 1) (insS N0 k1 k1 S0)) := by
        rw [insS_start]
        exact hown'
      clear hown' hgrow hown hb hsz
      go_wp2
      go_loopw [10, 12] (fun v i wr => ∃ k : Nat, k1 ≤ k ∧ k ≤ N0.length ∧ i = .int .i64 k ∧ wr.ownsRow wa.heap.size 9 1 v (k + 1) (insS N0 k1 k S0) ∧ Below wa.heap.size wa wr) (fun _ i _ => N0.length - (intOf i).toNat)
      case atStart => exact ⟨k1, Nat.le_refl _, hp, rfl, HO.out, hb1⟩
      case round =>
        clear HO hb1
        obtain ⟨k2, hk2, hk2', rfl, hown, hb⟩ := hrel
        have hsz := hb.size
        by_cases hlt2 : k2 < N0.length
        case pos =>
          obtain ⟨b, off, e, hc⟩ := rN0 k2 (by simpa using hlt2)
          subst e
          have hc' := ((ba.trans (hb.mono sa)).cell (p := ⟨b, off + k2, none⟩) (hN0 (by omega) b off rfl)).trans hc
          simp only [List.getElem_map] at hc'
          have HW : Hid (insS N0 k1 (k2 + 1) S0 = insS N0 k1 k2 S0 ++ [.string N0[k2]]) := insS_snoc N0 k1 k2 S0 N0[k2] hk2 (by simp)
          generalize N0[k2] = x at hc' HW
          have hlt' : (k2 : Int) < (N0.length : Int) := by omega
          clear hc rN0 ra hN0 nN0 s0
          go_wp2_with (at_builtin; refine wpList_append_own _ rfl _ _ 22 rfl wa.heap.size 9 i0 _ 1 16 Try.underlying22 hi0 hz0 hz1 hz2 rfl (by decide) _ _ _ rfl (hown.alloc _) ⟨wr.heap.size, 0, none⟩ 1 1 [.string x] rfl rfl (cell_one_new _ _ _) ?c2 ?c3 ?c4 ?c5 ?_)
          case c2 => intro u hu; simp at hu; subst hu; rfl
          case c3 => unfold maxLen; omega
          case c4 => omega
          case c5 => simp; omega
          intro v' w1 hown' hgrow _
          have hb1 : Below wa.heap.size wa w1 := (hb.alloc hsz _).grown hgrow (by simp; omega) (fun k' e => (hown.lt k' e).1)
          have HO : Hid (w1.ownsRow wa.heap.size 9 1 v' (k2 + 1 + 1) (insS N0 k1 (k2 + 1) S0)) := by
            rw [HW.out]
            exact hown'
          clear hown' hgrow hown
          go_wp2
          go_roundw
          case rel => exact ⟨k2 + 1, by omega, by omega, by go_num, HO.out, hb1⟩
          case measure => simp [intOf]; omega
        have hk2l : k2 = N0.length := by omega
        subst hk2l
        have hil : (insS N0 k1 N0.length S0).length = N0.length + 1 := by rw [insS, List.length_map, ins_len N0 k1 N0.length S0 hp (Nat.le_refl _)]
        obtain ⟨a2, c2, rfl, r2, h2⟩ := row_of_owns hown hil
        clear hown
        have hJl : (ins N0 k1 N0.length S0).length = N0.length + 1 := ins_len N0 k1 N0.length S0 hp (Nat.le_refl _)
        have HJ : Hid (without (ins N0 k1 N0.length S0) S0 = without N0 S0) := without_ins N0 k1 S0
        have r2' : Hid (RowAt wr a2 ((ins N0 k1 N0.length S0).map Value.string)) := r2
        clear r2 hil
        generalize ins N0 k1 N0.length S0 = J at hJl HJ r2'
        go_wp2_with fail
        refine (newElection_any none aa 0 0 N0.length ac 0 0 0 0 S0 wr).mono ?_
        rintro e we ⟨rfl, E1, be⟩
        have se : wr.heap.size ≤ we.heap.size := be.size
        go_wp2_with fail
        refine (newElection_any none a2 0 0 (N0.length + 1) c2 0 0 0 0 S0 we).mono ?_
        rintro e wf ⟨rfl, E2, bf⟩
        have sf : we.heap.size ≤ wf.heap.size := bf.size
        have E1' := E1.later bf
        clear E1
        have rAf : Hid (RowAt wf aa (N0.map Value.string)) := ra.same (Same.of_below (S := Span w.heap.size wa.heap.size) ((hb.trans (be.mono hsz)).trans (bf.mono (by omega))) fun b h => h.2) (by rw [List.length_map]; exact ha)
        have hAf : Hid (Held (· < wf.heap.size) aa N0.length) := ha.mono fun b h => by have := h.2; omega
        have rJf : Hid (RowAt wf a2 (J.map Value.string)) := r2'.out.same (Same.of_below (S := Span wa.heap.size wr.heap.size) (be.trans (bf.mono se)) fun b h => h.2) (by rw [List.length_map, hJl]; exact h2)
        have hJf : Hid (Held (· < wf.heap.size) a2 (N0.length + 1)) := h2.mono fun b h => by have := h.2; omega
        clear ra ha r2' h2
        have HM : Hid (∃ M, M = without N0 S0) := ⟨_, rfl⟩
        obtain ⟨M, hM⟩ := HM
        have HM : Hid (M = without N0 S0) := hM
        have hMl : M.length ≤ N0.length := by rw [hM]; exact without_le _ _
        have Z1 := zz_wait N0 aa N0.length ac E1' rfl l0 hAf.out rAf.out
        rw [← hM] at Z1
        go_wp2_with fail
        refine Z1.mono ?_
        rintro e wg ⟨b1, e1, rfl, r1g, h1g, bg⟩
        clear Z1
        have sg : wf.heap.size ≤ wg.heap.size := bg.size
        have E2' : El (wg.alloc (.cells #[.slice b1 M.length e1, .int .u64 0, .int .u64 0] 29)) we.heap.size (.slice none 0 0) 0 0 S0 (.slice a2 (N0.length + 1) c2) := E2.later (bg.alloc sg _)
        have Z2 := zz_wait J a2 (N0.length + 1) c2 E2' hJl (by omega) (hJf.out.mono fun b h => by simp; omega) (rJf.out.same (Same.of_below (S := (· < wf.heap.size)) (bg.alloc sg _) fun b h => h) (by rw [List.length_map, hJl]; exact hJf.out))
        rw [HJ.out, ← hM] at Z2
        clear E1' E2 E2' hM
        go_wp2_with fail
        refine Z2.mono ?_
        rintro e wh ⟨b2, e2, rfl, r2h, h2h, bh⟩
        clear Z2
        have hsg : wg.heap.size < (wg.alloc (.cells #[.slice b1 M.length e1, .int .u64 0, .int .u64 0] 29)).heap.size := by simp
        have hsh : wg.heap.size < wh.heap.size := Nat.lt_of_lt_of_le hsg bh.size
        have c0 := (bh.cell (p := ⟨wg.heap.size, 0, none⟩) hsg).trans (World.cell?_alloc_new _ _ _ _)
        have c1 := (bh.cell (p := ⟨wg.heap.size, 1, none⟩) hsg).trans (World.cell?_alloc_new _ _ _ _)
        have c2 := (bh.cell (p := ⟨wg.heap.size, 2, none⟩) hsg).trans (World.cell?_alloc_new _ _ _ _)
        simp at c0 c1 c2
        have A1 : (M.length : Int) < 2 * ((M.length : Int) / 2 + 1) := by omega
        have A2 : decide (2 * ((M.length : Int) / 2) ≤ (M.length : Int)) = true := decide_eq_true (by omega)
        have bwg : Below w.heap.size w wg := (((ba.trans (hb.mono sa)).trans (be.mono (by omega))).trans (bf.mono (by omega))).trans (bg.mono (by omega))
        have HB : Hid (Below w.heap.size w (wh.alloc (.cells #[.slice b2 M.length e2, .int .u64 0, .int .u64 0] 29))) := ((bwg.alloc (by omega) _).trans (bh.mono (by simp; omega))).alloc (by omega) _
        have R0 : Hid (RowAt (wh.alloc (.cells #[.slice b2 M.length e2, .int .u64 0, .int .u64 0] 29)) n0a (N0.map Value.string)) := rN0.same (Same.of_below HB.out fun b h => h) (by rw [List.length_map]; exact hN0)
        have bgh : Below wg.heap.size wg (wh.alloc (.cells #[.slice b2 M.length e2, .int .u64 0, .int .u64 0] 29)) := (((Below.refl _ wg).alloc (Nat.le_refl _) _).trans (bh.mono (by simp))).alloc (by omega) _
        have R1 : Hid (RowAt (wh.alloc (.cells #[.slice b2 M.length e2, .int .u64 0, .int .u64 0] 29)) b1 (M.map Value.string)) := r1g.same (Same.of_below (S := Span wf.heap.size wg.heap.size) bgh fun b h => h.2) (by rw [List.length_map]; exact h1g)
        have R2 : Hid (RowAt (wh.alloc (.cells #[.slice b2 M.length e2, .int .u64 0, .int .u64 0] 29)) b2 (M.map Value.string)) := r2h.same (Same.of_below (S := Span (wg.alloc (.cells #[.slice b1 M.length e1, .int .u64 0, .int .u64 0] 29)).heap.size wh.heap.size) ((Below.refl _ wh).alloc (Nat.le_refl _) _) fun b h => h.2) (by rw [List.length_map]; exact h2h)
        clear rN0 hN0 nN0 s0 r1g h1g r2h h2h ba hb be bf bg bh bwg bgh rAf hAf rJf hJf HJ hJl
        go_wp2_with fail
        refine (same_same b1 b2 M.length e1 e2 M _ rfl (by omega) R1.out R2.out).mono ?_
        rintro e w9 ⟨rfl, m, hw9⟩
        have R0' : Hid (RowAt w9 n0a (N0.map Value.string)) := by rw [hw9]; exact R0.out.drewN m
        have R1' : Hid (RowAt w9 b1 (M.map Value.string)) := by rw [hw9]; exact R1.out.drewN m
        have HB' : Hid (Below w.heap.size w w9) := by rw [hw9]; exact HB.out.trans ((below_drewN' _ _).mono HB.out.size)
        have c0' : w9.cell? ⟨wg.heap.size, 0, none⟩ = some (.slice b1 M.length e1) := by rw [hw9]; simpa [World.cell?_alloc_past, hsh] using c0
        have c1' : w9.cell? ⟨wg.heap.size, 1, none⟩ = some (.int .u64 0) := by rw [hw9]; simpa [World.cell?_alloc_past, hsh] using c1
        have c2' : w9.cell? ⟨wg.heap.size, 2, none⟩ = some (.int .u64 0) := by rw [hw9]; simpa [World.cell?_alloc_past, hsh] using c2
        have t1' : w9.cell? ⟨wh.heap.size, 1, none⟩ = some (.int .u64 0) := by rw [hw9]; simp
        have t2' : w9.cell? ⟨wh.heap.size, 2, none⟩ = some (.int .u64 0) := by rw [hw9]; simp
        clear hw9 R0 R1 R2 HB c0 c1 c2
        go_wp2
        go_loop [20, 21] (fun t i => ∃ k : Nat, k ≤ N0.length ∧ i = .int .i64 k ∧ t = .int .i64 (cnt N0 S0 k : Int)) (fun _ i => N0.length - (intOf i).toNat)
        case atStart => exact ⟨0, Nat.zero_le _, rfl, by rw [cnt_zero]; rfl⟩
        case round =>
          obtain ⟨k4, hk4, rfl, rfl⟩ := hrel
          by_cases hlt4 : k4 < N0.length
          case pos =>
            obtain ⟨b, off, e, hc⟩ := R0'.out k4 (by simpa using hlt4)
            subst e
            simp only [List.getElem_map] at hc
            have HX : Hid (N0[k4]? = some N0[k4]) := by show _ = _; simp
            generalize N0[k4] = x at hc HX
            have hcl := cnt_le N0 S0 k4
            have hlt' : (k4 : Int) < (N0.length : Int) := by omega
            clear c0' c1' c2' t1' t2'
            by_cases hx : (x.toList == S0.toList) = true
            case pos =>
              have HC : Hid (cnt N0 S0 (k4 + 1) = cnt N0 S0 k4) := cnt_yes HX.out hx
              go_wp2
              go_round
              case rel => exact ⟨k4 + 1, by omega, by go_num, by rw [HC.out]⟩
              case measure => simp [intOf]; omega
            have hx' : (x.toList == S0.toList) = false := by simpa using hx
            clear hx
            have HC : Hid (cnt N0 S0 (k4 + 1) = cnt N0 S0 k4 + 1) := cnt_no HX.out hx'
            go_wp2
            go_round
            case rel => exact ⟨k4 + 1, by omega, by go_num, by rw [HC.out]; go_num⟩
            case measure => simp [intOf]; omega
          have hk4l : k4 = N0.length := by omega
          have hcn : cnt N0 S0 k4 = M.length := by rw [hk4l, cnt_all, HM.out]
          rw [hcn]
          clear hcn
          go_wp2
          go_loopw [22, 23] (fun j i wr => ∃ k q t : Nat, i = .int .i64 k ∧ k ≤ M.length ∧ j = .int .i64 q ∧ q ≤ N0.length ∧ Hid (M.drop k = without (N0.drop q) S0) ∧ wr = w9.drewN t) (fun _ i _ => M.length - (intOf i).toNat)
          case atStart => exact ⟨0, 0, 0, rfl, Nat.zero_le _, rfl, Nat.zero_le _, HM.out, rfl⟩
          case round =>
            obtain ⟨k5, q5, t5, rfl, hk5, rfl, hq5, inv5, rfl⟩ := hrel
            by_cases hlt5 : k5 < M.length
            case neg =>
              go_wp2
              go_ret
              exact ⟨rfl, HB'.out.trans ((below_drewN' _ _).mono HB'.out.size)⟩
            obtain ⟨b, off, e, hc⟩ := R1'.out k5 (by simpa using hlt5)
            subst e
            simp only [List.getElem_map] at hc
            have HX : Hid (M[k5]? = some M[k5]) := by show _ = _; simp
            generalize M[k5] = x at hc HX
            have hxS : (x.toList == S0.toList) = false := mem_not (N := N0) (by rw [← HM.out]; exact HX.out)
            have hlt5' : (k5 : Int) < (M.length : Int) := by omega
            clear c1' c2' t1' t2'
            go_wp2
            go_loopw [22] (fun j wr => ∃ q t : Nat, j = .int .i64 q ∧ q ≤ N0.length ∧ Hid (M.drop k5 = without (N0.drop q) S0) ∧ wr = w9.drewN t) (fun j _ => N0.length - (intOf j).toNat)
            case atStart => exact ⟨q5, t5, rfl, hq5, inv5, rfl⟩
            case round =>
              clear inv5
              obtain ⟨q6, t6, rfl, hq6, inv6, rfl⟩ := hrel
              have hlt6 : q6 < N0.length := sub_end inv6.out hlt5
              obtain ⟨b', off', e', hc'⟩ := R0'.out q6 (by simpa using hlt6)
              subst e'
              simp only [List.getElem_map] at hc'
              have HY : Hid (N0[q6]? = some N0[q6]) := by show _ = _; simp
              generalize N0[q6] = y at hc' HY
              have hlt6' : (q6 : Int) < (N0.length : Int) := by omega
              have hne6 : ((q6 : Int) == (N0.length : Int)) = false := by rw [beq_eq_false_iff_ne]; omega
              by_cases hyx : (y.toList == x.toList) = true
              case pos =>
                have INV : Hid (M.drop (k5 + 1) = without (N0.drop (q6 + 1)) S0) := sub_keep inv6.out HX.out HY.out hxS hyx
                clear inv6
                go_wp2
                go_quiet (fail)
                go_wp2
                go_roundw
                case rel => exact ⟨k5 + 1, q6 + 1, _, by go_num, by omega, by go_num, by omega, INV, rfl⟩
                case measure => simp [intOf]; omega
              have hyx' : (y.toList == x.toList) = false := by simpa using hyx
              clear hyx
              have INV : Hid (M.drop k5 = without (N0.drop (q6 + 1)) S0) := sub_skip inv6.out HX.out HY.out hyx'
              clear inv6
              go_wp2
              go_quiet (fail)
              go_wp2
              go_roundw
              case rel => exact ⟨q6 + 1, _, by go_num, by omega, INV, rfl⟩
              case measure => simp [intOf]; omega

end Go.Proofs.Qxb6613197a
