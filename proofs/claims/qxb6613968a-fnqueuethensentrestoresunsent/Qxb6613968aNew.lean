/-
  Seat b6613968a. The walk of ZZNewChannelReader (10). By an AI agent.
-/
import Derived.Test.Qxb6613968aRd
import Derived.Deep.RegionWith
namespace Go.Proofs.Qxb6613968a
open Go.Conc Go.RowKit
set_option linter.unusedVariables false
set_option linter.unusedSimpArgs false

theorem mkc1 (w : World) : (Instr.makeChan 50 (.int .i64 1)).run Try.prog w = .ok (.chan (some w.heap.size)) (w.alloc (.chan 1 #[] false 0 0 false)) := by
  obtain ⟨i0, hi0, hz0, _, hb⟩ := info_parts Try.info56
  simpa using run_makeChan (P := Try.prog) (w := w) Try.underlying50 hi0 .i64 1 (by omega) (by rw [hb]; omega)
theorem mkc0 (w : World) : (Instr.makeChan 50 (.int .i64 0)).run Try.prog w = .ok (.chan (some w.heap.size)) (w.alloc (.chan 0 #[] false 0 0 false)) := by
  obtain ⟨i0, hi0, hz0, _, hb⟩ := info_parts Try.info56
  simpa using run_makeChan (P := Try.prog) (w := w) Try.underlying50 hi0 .i64 0 (by omega) (by rw [hb]; omega)

/-- what zzMakeEvents hands back -/
structure Made (H : Nat) (na : Option Addr) (l : Nat) (es : List Ev) (v : Sl) (w : World) : Prop where
  len : v.n = l
  nil : v.a.isNone = na.isNone
  own : w.ownsRow H 60 3 v.v l (evCells es)

/-- the reader as ZZNewChannelReader lays it, ahead of the token -/
theorem rd_new {w wa w1 wb w2 wc : World} {na ra : Option Addr} {n m : Nat} {P Q : List Ev} {a1 a2 : Option Addr} {c1 c2 : Nat} {u cut : Int} {c d R : Nat}
    (hP : P.length = n) (hQ : Q.length = m) (hw : w.heap.size ≤ wa.heap.size) (b1 : Below wa.heap.size wa w1) (m1 : Made wa.heap.size ra m Q ⟨a1, m, c1⟩ w1) (b2 : Below w1.heap.size w1 wb) (b3 : Below wb.heap.size wb w2) (m2 : Made wb.heap.size na n P ⟨a2, n, c2⟩ w2) (b4 : Below w2.heap.size w2 wc)
    (hc : wc.heap[c]? = some (.chan 1 #[] false 0 0 false)) (hcw : w.heap.size ≤ c) (hR : wc.heap.size = R) :
    Rd (wc.alloc (.cells #[.chan (some c), .chan (some d), .slice a1 m c1, .slice a2 n c2, .int .i64 u, .int .i64 cut] 55)) w.heap.size R c ⟨a2, n, c2⟩ ⟨a1, m, c1⟩ P Q u cut false := by
  subst hR
  have s1 := b1.size
  have s2 := b2.size
  have s3 := b3.size
  have s4 := b4.size
  have hcl : c < wc.heap.size := by
    rcases Nat.lt_or_ge c wc.heap.size with h | h
    · exact h
    · rw [Array.getElem?_eq_none h] at hc; cases hc
  refine ⟨⟨d, heap_alloc_new _ _⟩, ⟨#[], 0, 0, ?_, rfl⟩, ?_, ?_, by omega, hcw, ?_⟩
  · rw [Below.heap_alloc _ _ _ hcl]; exact hc
  · rw [hP]
    exact (owns_base (owns_below m2.own b4 (Nat.le_refl _)) (by omega)).alloc _
  · rw [hQ]
    exact (owns_base (owns_below (owns_below (owns_below m1.own b2 (Nat.le_refl _)) b3 (Nat.le_refl _)) b4 (Nat.le_refl _)) (by omega)).alloc _
  · intro k hk hk'
    have h1 := m2.own.lt k hk
    have h2 := m1.own.lt k hk'
    omega

theorem lay1 (w : World) (o : Obj) : (w.alloc o).heap[w.heap.size]? = some o := heap_alloc_new _ _
theorem lay2 (w : World) (o p : Obj) : ((w.alloc o).alloc p).heap[w.heap.size]? = some o := by rw [Below.heap_alloc _ _ _ (by simp)]; exact heap_alloc_new _ _
theorem lay3 (w : World) (o p : Obj) : ((w.alloc o).alloc p).heap[w.heap.size + 1]? = some p := by
  have := heap_alloc_new (w.alloc o) p
  simpa using this
theorem lay1d (w : World) (o : Obj) : (w.alloc o).drew.heap[w.heap.size]? = some o := lay1 w o
theorem lay2d (w : World) (o p : Obj) : ((w.alloc o).alloc p).drew.heap[w.heap.size]? = some o := lay2 w o p
theorem lay3d (w : World) (o p : Obj) : ((w.alloc o).alloc p).drew.heap[w.heap.size + 1]? = some p := lay3 w o p
theorem carry {w w' : World} {k : Nat} {o : Obj} (h : w.heap[k]? = some o) (hb : Below w.heap.size w w') : w'.heap[k]? = some o := by
  have hk : k < w.heap.size := by
    rcases Nat.lt_or_ge k w.heap.size with h' | h'
    · exact h'
    · rw [Array.getElem?_eq_none h'] at h; cases h
  rw [hb.block k hk]; exact h
theorem grow0 (w : World) : Below w.heap.size w w := Below.refl _ _
theorem grow1 (w : World) (o : Obj) : Below w.heap.size w (w.alloc o) := (Below.refl _ _).alloc (Nat.le_refl _) _
theorem grow2 (w : World) (o p : Obj) : Below w.heap.size w ((w.alloc o).alloc p) := (grow1 w o).alloc (by simp) _

/-- the rows lie in w as they lay in w0 -/
structure Src (w0 : World) (na ia da : Option Addr) (n nc : Nat) (N : List ByteArray) (I : List Int) (D : List Sl) : Prop where
  ln : N.length = n
  li : I.length = n
  ld : D.length = n
  small : n ≤ 1048576
  nil : na = none → n = 0 ∧ nc = 0
  gN : Held (· < w0.heap.size) na n
  gI : Held (· < w0.heap.size) ia n
  gD : Held (· < w0.heap.size) da n
  hN : RowAt w0 na (N.map Value.string)
  hI : RowAt w0 ia (I.map (Value.int .u64))
  hD : RowAt w0 da (D.map Sl.v)

theorem makeEvents_any {w0 : World} {na ia da : Option Addr} {n nc : Nat} {N : List ByteArray} {I : List Int} {D : List Sl} (h : Src w0 na ia da n nc N I D) (ic dc : Nat) (w : World) (hb : Below w0.heap.size w0 w) :
    Calls Try.prog 28 #[.slice na n nc, .slice ia n ic, .slice da n dc] w fun e w' => ∃ a c, e = .returned (.slice a n c) ∧ Made w.heap.size na n (evs N I D) ⟨a, n, c⟩ w' ∧ Below w.heap.size w w' := by
  cases hna : na with
  | none =>
    subst hna
    obtain ⟨h1, h2⟩ := h.nil rfl
    have hN0 : N = [] := List.length_eq_zero_iff.1 (by rw [h.ln, h1])
    subst h1
    refine (makeEvents_nil ia da nc ic dc 0 0 w h2).mono ?_
    rintro e w' ⟨rfl, rfl⟩
    exact ⟨none, 0, rfl, ⟨rfl, rfl, by rw [hN0]; exact World.ownsRow_nil _ _ _ _⟩, Below.refl _ _⟩
  | some ad =>
    subst hna
    have hs := hb.size
    refine (makeEvents_some N I D ad ia da nc ic dc n w h.ln.symm (by rw [h.ln]; exact h.small) (by rw [h.li, h.ln]) (by rw [h.ld, h.ln]) (h.gN.mono fun b hb' => Nat.lt_of_lt_of_le hb' hs) (h.gI.mono fun b hb' => Nat.lt_of_lt_of_le hb' hs) (h.gD.mono fun b hb' => Nat.lt_of_lt_of_le hb' hs) ?_ ?_ ?_).mono ?_
    · exact h.hN.same (Same.of_below hb fun b h => h) (by have := h.gN; rw [List.length_map, h.ln]; exact this)
    · exact h.hI.same (Same.of_below hb fun b h => h) (by have := h.gI; rw [List.length_map, h.li]; exact this)
    · exact h.hD.same (Same.of_below hb fun b h => h) (by have := h.gD; rw [List.length_map, h.ld]; exact this)
    rintro e w' ⟨rfl, h1, h2⟩
    exact ⟨_, _, rfl, ⟨rfl, rfl, h1⟩, h2⟩

theorem via {w X w1 W : World} (hX : Below w.heap.size w X) (hb : Below X.heap.size X w1) (hW : Below w1.heap.size w1 W) : Below w.heap.size w W :=
  (hX.trans (hb.mono hX.size)).trans (hW.mono (Nat.le_trans hX.size hb.size))

/-- the frame behind the reader's making -/
def MadeFrame (w : World) (na ia da ra sa ta : Option Addr) (n nc ic dc m rc sc tc : Nat) (P Q : List Ev) (u cut : Int) (tok : Bool) (a : Act) (w' : World) : Prop :=
  ∃ (R : Nat) (a1 : Option Addr) (c1 : Nat) (a2 : Option Addr) (c2 : Nat) (x20 x21 x25 x29 x32 x33 : Value),
    a = ⟨#[.slice na n nc, .slice ia n ic, .slice da n dc, .slice ra m rc, .slice sa m sc, .slice ta m tc, .int .i64 u, .int .i64 cut, .bool tok, undef, undef, undef, undef, undef, undef, undef, undef, undef, .pointer none, .pointer (some ⟨R, 0, none⟩),
      x20, x21, .slice ra m rc, .slice sa m sc, .slice ta m tc, x25, .slice na n nc, .slice ia n ic, .slice da n dc, x29, .int .i64 u, .int .i64 cut, x32, x33, undef, undef, undef, undef, undef, undef, undef], []⟩ ∧
    (∃ c, Rd w' w.heap.size R c ⟨a2, n, c2⟩ ⟨a1, m, c1⟩ P Q u cut false) ∧ a2.isNone = na.isNone ∧ a1.isNone = ra.isNone ∧ Below w.heap.size w w'

/-- what ZZNewChannelReader hands back -/
def NewRd (w : World) (na ra : Option Addr) (n m : Nat) (P Q : List Ev) (u cut : Int) (tok : Bool) (e : Ending) (w' : World) : Prop :=
  ∃ (R c : Nat) (a1 : Option Addr) (c1 : Nat) (a2 : Option Addr) (c2 : Nat), e = .returned (.pointer (some ⟨R, 0, none⟩)) ∧ Rd w' w.heap.size R c ⟨a2, n, c2⟩ ⟨a1, m, c1⟩ P Q u cut tok ∧ a2.isNone = na.isNone ∧ a1.isNone = ra.isNone ∧ Below w.heap.size w w'

set_option maxRecDepth 100000 in
set_option maxHeartbeats 1600000 in
theorem newReader_any {w : World} {na ia da ra sa ta : Option Addr} {n nc m rc : Nat} {N M : List ByteArray} {I J : List Int} {D E : List Sl} (hP : Src w na ia da n nc N I D) (hQ : Src w ra sa ta m rc M J E) (ic dc sc tc : Nat) (u cut : Int) (tok : Bool) :
    Calls Try.prog 10 #[.slice na n nc, .slice ia n ic, .slice da n dc, .slice ra m rc, .slice sa m sc, .slice ta m tc, .int .i64 u, .int .i64 cut, .bool tok] w (NewRd w na ra n m (evs N I D) (evs M J E) u cut tok) := by
  refine calls_split (MadeFrame w na ia da ra sa ta n nc ic dc m rc sc tc (evs N I D) (evs M J E) u cut tok) Try.func10 rfl ?_ ?_ ?_
  · simp only [Try.ntmps10, List.size_toArray, List.length_cons, List.length_nil, Nat.reduceAdd, Nat.reduceSub, Array.replicate_succ, Array.replicate_zero, List.push_toArray, List.append_toArray, List.nil_append, List.cons_append]
    have m1 := mkc1
    have m0 := mkc0
    have HP : Hid ((evs N I D).length = n) := by show _ = _; rw [evs_length _ _ _ (by rw [hP.li, hP.ln]) (by rw [hP.ld, hP.ln]), hP.ln]
    have HQ : Hid ((evs M J E).length = m) := by show _ = _; rw [evs_length _ _ _ (by rw [hQ.li, hQ.ln]) (by rw [hQ.ld, hQ.ln]), hQ.ln]
    go_wp2
    go_region_with (first
      | (go_at_call_of 28 (ra); go_must (refine (makeEvents_any hQ _ _ _ ?_).mono ?_; (first | exact (grow0 w).drew | exact (grow1 w _).drew | exact (grow2 w _ _).drew); rintro e w1 ⟨a1, c1, rfl, hm1, hb1⟩))
      | (go_at_call_of 28 (na); go_must (refine (makeEvents_any hP _ _ _ (via ?_ hb1 ?_)).mono ?_; (first | exact (grow0 w).drew | exact (grow1 w _).drew | exact (grow2 w _ _).drew); (first | exact grow0 w1 | exact grow1 w1 _ | exact grow2 w1 _ _); rintro e w2 ⟨a2, c2, rfl, hm2, hb2⟩)))
    all_goals (
      refine ⟨_, a1, c1, a2, c2, _, _, _, _, _, _, rfl, ?_, hm2.nil, hm1.nil, ?_⟩
      · refine ⟨_, rd_new HP.out HQ.out ?_ hb1 hm1 ?_ hb2 hm2 ?_ ?_ ?_ ?_⟩
        · first | (simp; done) | (simp; omega)
        · first | exact grow0 w1 | exact grow1 w1 _ | exact grow2 w1 _ _
        · first | exact grow0 w2 | exact grow1 w2 _ | exact grow2 w2 _ _
        · first
            | exact lay1 w2 _
            | exact lay2 w2 _ _
            | exact lay3 w2 _ _
            | exact carry (carry (lay1 w1 _) hb2) (grow0 w2)
            | exact carry (carry (lay1 w1 _) hb2) (grow1 w2 _)
            | exact carry (carry (lay2 w1 _ _) hb2) (grow0 w2)
            | exact carry (carry (lay3 w1 _ _) hb2) (grow0 w2)
            | exact carry (carry (carry (carry (lay1d w _) hb1) (grow0 w1)) hb2) (grow0 w2)
            | exact carry (carry (carry (carry (lay1d w _) hb1) (grow1 w1 _)) hb2) (grow0 w2)
            | exact carry (carry (carry (carry (lay1d w _) hb1) (grow0 w1)) hb2) (grow1 w2 _)
            | exact carry (carry (carry (carry (lay2d w _ _) hb1) (grow0 w1)) hb2) (grow0 w2)
            | exact carry (carry (carry (carry (lay3d w _ _) hb1) (grow0 w1)) hb2) (grow0 w2)
        · have q1 := hb1.size
          have q2 := hb2.size
          simp at q1 q2
          omega
        · simp
      · refine ((via ?_ hb1 (via ?_ hb2 ?_))).alloc ?_ _
        · first | exact (grow0 w).drew | exact (grow1 w _).drew | exact (grow2 w _ _).drew
        · first | exact grow0 w1 | exact grow1 w1 _ | exact grow2 w1 _ _
        · first | exact grow0 w2 | exact grow1 w2 _ | exact grow2 w2 _ _
        · have q1 := hb1.size
          have q2 := hb2.size
          simp at q1 q2
          simp
          omega)
  · rintro a w' ⟨R, a1, c1, a2, c2, x20, x21, x25, x29, x32, x33, rfl, ⟨c, hrd⟩, n2, n1, hb⟩
    cases tok with
    | false => exact newTail_false R w' _ ⟨R, c, a1, c1, a2, c2, rfl, hrd, n2, n1, hb⟩ _ _ _ _ _ _ _ _ _ _ _ _ _ _ _ _ _ _ _ _ _ _ _ _ _ _ _ _ _ _ _ _ _ _ _ _ _ _ _
    | true =>
      obtain ⟨buf, s, r, hc, hz⟩ := hrd.chan
      obtain ⟨d, hblk⟩ := hrd.block
      have hz' : buf.size = 0 := by simpa using hz
      refine newTail_true R c w' _ (by simp [World.cell?, hblk]) buf s r hc (by omega) ⟨R, c, a1, c1, a2, c2, rfl, ?_, n2, n1, below_setChan hb hrd.hc _ _ _ _ _ _⟩ _ _ _ _ _ _ _ _ _ _ _ _ _ _ _ _ _ _ _ _ _ _ _ _ _ _ _ _ _ _ _ _ _ _ _ _ _ _ _
      have hoth : ∀ b, b ≠ c → (w'.setChan c 1 (buf.push (.agg #[])) false (s + 1) r false).heap[b]? = w'.heap[b]? := fun b hbc => by
        simp only [World.setChan]
        rw [Array.getElem?_setIfInBounds_ne (by omega)]
      refine ⟨⟨d, by rw [hoth R hrd.ne]; exact hblk⟩, ⟨_, _, _, heap_setChan w' c 1 _ false _ r false hrd.ltC, by rw [Array.size_push, hz']; rfl⟩, ?_, ?_, hrd.hR, hrd.hc, hrd.apart⟩
      · exact owns_keep hrd.pend fun k hk => hoth k (fun e => hrd.pC (by rw [hk, e]))
      · exact owns_keep hrd.repl fun k hk => hoth k (fun e => hrd.rC (by rw [hk, e]))
  · rintro w' ⟨_, _, _, _, _, _, h, _⟩
    cases h

end Go.Proofs.Qxb6613968a
