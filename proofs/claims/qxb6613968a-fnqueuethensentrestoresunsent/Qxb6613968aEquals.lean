/-
  Seat b6613968a. The walks of the comparisons, where both sides are the same: zzBytesEqual (32), zzEventsAre (20). By an AI agent.
-/
import Derived.Test.Qxb6613968aProg
import Derived.Test.Qxb6613968aMem
import Derived.Deep.QuietTactic
import Derived.BigQuiet
namespace Go.Proofs.Qxb6613968a
open Go.RowKit
set_option linter.unusedVariables false
set_option linter.unusedSimpArgs false

theorem RowAt.drewN {w : World} {ao : Option Addr} {vs : List Value} (h : RowAt w ao vs) (m : Nat) : RowAt (w.drewN m) ao vs := by
  intro i hi
  obtain ⟨b, off, e, hc⟩ := h i hi
  exact ⟨b, off, e, by simpa using hc⟩

set_option maxHeartbeats 400000 in
theorem bytesEqual_same (a b : Option Addr) (n ca cb : Nat) (x : List Int) (w : World) (hn : n = x.length) (hx : x.length ≤ 1048576) (ha : RowAt w a (x.map (Value.int .u8))) (hb : RowAt w b (x.map (Value.int .u8))) :
    Calls Try.prog 32 #[.slice a n ca, .slice b n cb] w fun e w' => e = .returned (.bool true) ∧ ∃ m, w' = w.drewN m := by
  subst hn
  go_enter Try.func32, Try.ntmps32
  go_wp2
  go_loopw [5] (fun i wr => ∃ k : Nat, k ≤ x.length ∧ i = .int .i64 k ∧ ∃ m, wr = w.drewN m) (fun i _ => x.length - (intOf i).toNat)
  case atStart => exact ⟨0, Nat.zero_le _, rfl, 0, rfl⟩
  case round =>
    obtain ⟨k, hk, rfl, m, rfl⟩ := hrel
    by_cases hlt : k < x.length
    · obtain ⟨b1, o1, e1, h1⟩ := ha k (by simpa using hlt)
      obtain ⟨b2, o2, e2, h2⟩ := hb k (by simpa using hlt)
      simp only [List.getElem_map] at h1 h2
      generalize x[k] = v at h1 h2
      subst e1
      subst e2
      have hlt' : (k : Int) < (x.length : Int) := by omega
      clear ha hb
      go_wp2
      go_quiet (fail)
      go_wp2
      go_roundw
      case rel => exact ⟨k + 1, by omega, by go_num, _, rfl⟩
      case measure => simp [intOf]; omega
    · go_wp2
      go_ret
      exact ⟨rfl, _, rfl⟩

theorem RowAt.get {w : World} {ao : Option Addr} {vs : List Value} (h : RowAt w ao vs) {k : Nat} {v : Value} (hv : vs[k]? = some v) : ∃ b off, ao = some ⟨b, off, none⟩ ∧ w.cell? ⟨b, off + k, none⟩ = some v := by
  obtain ⟨hk, e⟩ := List.getElem?_eq_some_iff.1 hv
  obtain ⟨b, off, e1, hc⟩ := h k hk
  exact ⟨b, off, e1, by rw [hc, e]⟩

/-- three rows of one length: names, ids, data with their contents -/
structure EvsAt (w : World) (S : Nat → Prop) (na ia da : Option Addr) (N : List ByteArray) (I : List Int) (D : List Sl) (X : List (List Int)) : Prop where
  names : RowAt w na (N.map Value.string)
  ids : RowAt w ia (I.map (Value.int .u64))
  datas : RowAt w da (D.map Sl.v)
  dats : DatsAt w S D X
  li : I.length = N.length
  ld : D.length = N.length

/-- what one place of them holds -/
theorem EvsAt.at {w : World} {S : Nat → Prop} {na ia da : Option Addr} {N : List ByteArray} {I : List Int} {D : List Sl} {X : List (List Int)} (h : EvsAt w S na ia da N I D X) {k : Nat} {s : ByteArray} {i : Int} {x : List Int}
    (hs : N[k]? = some s) (hi : I[k]? = some i) (hx : X[k]? = some x) :
    ∃ b1 o1 b2 o2 b3 o3 a c, na = some ⟨b1, o1, none⟩ ∧ ia = some ⟨b2, o2, none⟩ ∧ da = some ⟨b3, o3, none⟩ ∧ w.cell? ⟨b1, o1 + k, none⟩ = some (.string s) ∧ w.cell? ⟨b2, o2 + k, none⟩ = some (.int .u64 i) ∧
      w.cell? ⟨b3, o3 + k, none⟩ = some (.slice a x.length c) ∧ RowAt w a (x.map (Value.int .u8)) := by
  obtain ⟨b1, o1, e1, c1⟩ := h.names.get (k := k) (v := .string s) (by simp [hs])
  obtain ⟨b2, o2, e2, c2⟩ := h.ids.get (k := k) (v := .int .u64 i) (by simp [hi])
  have hk : k < D.length := by
    obtain ⟨hk, _⟩ := List.getElem?_eq_some_iff.1 hs
    rw [h.ld]; exact hk
  obtain ⟨b3, o3, e3, c3⟩ := h.datas.get (k := k) (v := D[k].v) (by simp [hk])
  have hd := h.dats.each k D[k] x (by simp [hk]) hx
  refine ⟨b1, o1, b2, o2, b3, o3, D[k].a, D[k].c, e1, e2, e3, c1, c2, ?_, hd.row⟩
  rw [c3, ← hd.len]
  rfl

theorem EvsAt.drewN {w : World} {S : Nat → Prop} {na ia da : Option Addr} {N : List ByteArray} {I : List Int} {D : List Sl} {X : List (List Int)} (h : EvsAt w S na ia da N I D X) (m : Nat) : EvsAt (w.drewN m) S na ia da N I D X :=
  ⟨h.names.drewN m, h.ids.drewN m, h.datas.drewN m, h.dats.same (fun b _ => by simp), h.li, h.ld⟩

theorem quiet_of_add {f : FuncId} {args : Array Value} {w : World} {m n : Nat} {v : Value}
    (h : Calls Try.prog f args (w.drewN (m + n)) fun e w' => e = .returned v ∧ ∃ k, w' = (w.drewN (m + n)).drewN k) : Calls Try.prog f args (w.drewN (m + n)) fun e w'' => e = .returned v ∧ ∃ k, w'' = w.drewN (m + k) :=
  h.mono fun _ _ ⟨he, k, hk⟩ => ⟨he, n + k, by rw [hk, World.drewN_drewN, Nat.add_assoc]⟩

set_option maxHeartbeats 1600000 in
set_option maxRecDepth 100000 in
theorem eventsAre_same (A B : List ByteArray) (IA IB : List Int) (G DA DB : List Sl) (XA XB : List (List Int)) (S SA SB : Nat → Prop) (ga gb gc aa ab ac ba bb bc : Option Addr) (c1 c2 c3 c4 c5 c6 c7 c8 c9 : Nat) (w : World)
    (hA : A.length ≤ 1048576) (hB : B.length ≤ 1048576) (hXA : ∀ (i : Nat) (x : List Int), XA[i]? = some x → x.length ≤ 1048576) (hXB : ∀ (i : Nat) (x : List Int), XB[i]? = some x → x.length ≤ 1048576)
    (hG : EvsAt w S ga gb gc (A ++ B) (IA ++ IB) G (XA ++ XB)) (hEA : EvsAt w SA aa ab ac A IA DA XA) (hEB : EvsAt w SB ba bb bc B IB DB XB) (n la lb : Nat) (hn : n = A.length + B.length) (hla : la = A.length) (hlb : lb = B.length) :
    Calls Try.prog 20 #[.slice ga n c1, .slice gb n c2, .slice gc n c3, .slice aa la c4, .slice ab la c5, .slice ac la c6, .slice ba lb c7, .slice bb lb c8, .slice bc lb c9] w
      fun e w' => e = .returned (.bool true) ∧ ∃ m, w' = w.drewN m := by
  have HA : Hid (la = A.length) := hla
  have HB : Hid (lb = B.length) := hlb
  have HN : n = la + lb := by omega
  subst HN
  rw [← hla] at hA
  rw [← hlb] at hB
  clear hn hla hlb
  go_enter Try.func20, Try.ntmps20
  go_wp2
  go_loopw [21] (fun i wr => ∃ k : Nat, k ≤ la ∧ i = .int .i64 k ∧ ∃ m, wr = w.drewN m) (fun i _ => la - (intOf i).toNat)
  case atStart => exact ⟨0, Nat.zero_le _, rfl, 0, rfl⟩
  case round =>
    obtain ⟨k, hk, rfl, m, rfl⟩ := hrel
    by_cases hlt : k < la
    · have hka : k < A.length := by rw [← HA.out]; exact hlt
      have hxl : XA.length = A.length := by rw [← hEA.dats.len, hEA.ld]
      obtain ⟨s, hs⟩ : ∃ s, A[k]? = some s := ⟨A[k], by simp [hka]⟩
      obtain ⟨i, hi⟩ : ∃ i, IA[k]? = some i := ⟨IA[k]'(by rw [hEA.li]; exact hka), by simp⟩
      obtain ⟨x, hx⟩ : ∃ x, XA[k]? = some x := ⟨XA[k]'(by omega), by simp⟩
      obtain ⟨b1, o1, b2, o2, b3, o3, da, dc, e1, e2, e3, q1, q2, q3, q4⟩ := hEA.at hs hi hx
      obtain ⟨b4, o4, b5, o5, b6, o6, ea, ec, e4, e5, e6, q5, q6, q7, q8⟩ := hG.at (k := k) (s := s) (i := i) (x := x) (by rw [List.getElem?_append_left hka]; exact hs) (by rw [List.getElem?_append_left (by rw [hEA.li]; exact hka)]; exact hi) (by rw [List.getElem?_append_left (by omega)]; exact hx)
      have hxn := hXA k x hx
      clear hG hEA hEB hXA hXB hs hi hx hka hxl
      subst e1 e2 e3 e4 e5 e6
      have hlt' : (k : Int) < (la : Int) := by omega
      have hlt2 : (k : Int) < (la : Int) + (lb : Int) := by omega
      go_wp2
      go_quiet ((go_at_call 32; go_must (exact quiet_of_add (bytesEqual_same _ _ _ _ _ x _ rfl hxn (q8.drewN _) (q4.drewN _)))))
      go_wp2
      go_roundw
      case rel => exact ⟨k + 1, by omega, by go_num, _, rfl⟩
      case measure => simp [intOf]; omega
    · clear hXA
      go_wp2
      go_loopw [22] (fun i wr => ∃ k : Nat, k ≤ lb ∧ i = .int .i64 k ∧ ∃ m, wr = w.drewN m) (fun i _ => lb - (intOf i).toNat)
      case atStart => exact ⟨0, Nat.zero_le _, rfl, _, rfl⟩
      case round =>
        clear hlt hk
        obtain ⟨j, hj, rfl, m', rfl⟩ := hrel
        by_cases hlt : j < lb
        · have hkb : j < B.length := by rw [← HB.out]; exact hlt
          have hxl : XB.length = B.length := by rw [← hEB.dats.len, hEB.ld]
          have hxa : XA.length = A.length := by rw [← hEA.dats.len, hEA.ld]
          have hia := hEA.li
          have hla := HA.out
          obtain ⟨s, hs⟩ : ∃ s, B[j]? = some s := ⟨B[j], by simp [hkb]⟩
          obtain ⟨i, hi⟩ : ∃ i, IB[j]? = some i := ⟨IB[j]'(by rw [hEB.li]; exact hkb), by simp⟩
          obtain ⟨x, hx⟩ : ∃ x, XB[j]? = some x := ⟨XB[j]'(by omega), by simp⟩
          obtain ⟨b1, o1, b2, o2, b3, o3, da, dc, e1, e2, e3, q1, q2, q3, q4⟩ := hEB.at hs hi hx
          obtain ⟨b4, o4, b5, o5, b6, o6, ea, ec, e4, e5, e6, q5, q6, q7, q8⟩ := hG.at (k := la + j) (s := s) (i := i) (x := x) (by rw [List.getElem?_append_right (by omega), hla, Nat.add_sub_cancel_left]; exact hs) (by rw [List.getElem?_append_right (by omega), hla, hia, Nat.add_sub_cancel_left]; exact hi) (by rw [List.getElem?_append_right (by omega), hla, hxa, Nat.add_sub_cancel_left]; exact hx)
          have hxn := hXB j x hx
          clear hG hEA hEB hXB hs hi hx hkb hxl hxa hia hla
          subst e1 e2 e3 e4 e5 e6
          have hlt' : (j : Int) < (lb : Int) := by omega
          have hlt2 : (la : Int) + (j : Int) < (la : Int) + (lb : Int) := by omega
          have hto : ((la : Int) + (j : Int)).toNat = la + j := by omega
          go_wp2
          go_quiet ((go_at_call 32; go_must (exact quiet_of_add (bytesEqual_same _ _ _ _ _ x _ rfl hxn (q8.drewN _) (q4.drewN _)))))
          go_wp2
          go_roundw
          case rel => exact ⟨j + 1, by omega, by go_num, _, rfl⟩
          case measure => simp [intOf]; omega
        · go_wp2
          go_ret
          exact ⟨rfl, _, rfl⟩

end Go.Proofs.Qxb6613968a
