/-
  Seat b6613968a. The plain law: what a script of queueings makes of a reader. No Go in sight. By an AI agent.
-/
import Derived.Test.Qxb6613968aEvents
namespace Go.Proofs.Qxb6613968a
set_option linter.unusedVariables false
set_option linter.unusedSimpArgs false

/-- a reader's state -/
structure St where
  P : List Ev
  Q : List Ev
  pn : Bool
  rn : Bool
  u : Int
  cut : Int
  tok : Bool

/-- one queueing -/
def St.step (s : St) (e : Ev) : St :=
  if s.cut ≠ 0 then s
  else if 16777216 < s.u + e.dat.n then ⟨[], [], true, true, s.u + e.dat.n, 1, true⟩
  else ⟨s.P ++ [e], s.Q, false, s.rn, s.u + e.dat.n, 0, true⟩

def St.run (s : St) (es : List Ev) : St := es.foldl St.step s

theorem St.run_nil (s : St) : s.run [] = s := rfl
theorem St.run_snoc (s : St) (es : List Ev) (e : Ev) : s.run (es ++ [e]) = (s.run es).step e := by simp [St.run]
theorem St.run_cons (s : St) (es : List Ev) (e : Ev) : s.run (e :: es) = (s.step e).run es := rfl

theorem St.step_cut {s : St} (h : s.cut ≠ 0) (e : Ev) : s.step e = s := by simp [St.step, h]
theorem St.step_over {s : St} (h : s.cut = 0) {e : Ev} (h2 : 16777216 < s.u + e.dat.n) : s.step e = ⟨[], [], true, true, s.u + e.dat.n, 1, true⟩ := by simp [St.step, h, h2]
theorem St.step_take {s : St} (h : s.cut = 0) {e : Ev} (h2 : s.u + e.dat.n ≤ 16777216) : s.step e = ⟨s.P ++ [e], s.Q, false, s.rn, s.u + e.dat.n, 0, true⟩ := by
  have : ¬ 16777216 < s.u + (e.dat.n : Int) := by omega
  simp [St.step, h, this]

theorem St.run_cut {s : St} (h : s.cut ≠ 0) (es : List Ev) : s.run es = s := by
  induction es with
  | nil => rfl
  | cons e r ih => rw [St.run_cons, St.step_cut h, ih]

/-- the count: where it first passes the bound it stops -/
def scan (u : Int) : List Nat → Int × Bool
  | [] => (u, false)
  | x :: r => if 16777216 < u + x then (u + x, true) else scan (u + x) r

theorem scan_over {u : Int} {x : Nat} {r : List Nat} (h : 16777216 < u + x) : scan u (x :: r) = (u + x, true) := by simp [scan, h]
theorem scan_take {u : Int} {x : Nat} {r : List Nat} (h : u + x ≤ 16777216) : scan u (x :: r) = scan (u + x) r := by
  have : ¬ 16777216 < u + (x : Int) := by omega
  simp [scan, this]

/-- A script on a reader that is not cut: all taken, or cut at the first that passes. -/
theorem St.run_scan (s : St) (h : s.cut = 0) (es : List Ev) :
    ((scan s.u (es.map fun e => e.dat.n)).2 = false → s.run es = ⟨s.P ++ es, s.Q, if es = [] then s.pn else false, s.rn, (scan s.u (es.map fun e => e.dat.n)).1, 0, if es = [] then s.tok else true⟩) ∧
    ((scan s.u (es.map fun e => e.dat.n)).2 = true → s.run es = ⟨[], [], true, true, (scan s.u (es.map fun e => e.dat.n)).1, 1, true⟩) := by
  induction es generalizing s with
  | nil =>
    obtain ⟨P, Q, pn, rn, u, cut, tok⟩ := s
    simp only at h
    subst h
    simp [scan, St.run]
  | cons e r ih =>
    simp only [List.map_cons]
    by_cases ho : 16777216 < s.u + (e.dat.n : Int)
    · rw [scan_over ho, St.run_cons, St.step_over h ho]
      refine ⟨fun h' => by simp at h', fun _ => ?_⟩
      exact St.run_cut (by simp) r
    · have ho' : s.u + (e.dat.n : Int) ≤ 16777216 := by omega
      rw [scan_take ho', St.run_cons, St.step_take h ho']
      have := ih ⟨s.P ++ [e], s.Q, false, s.rn, s.u + e.dat.n, 0, true⟩ rfl
      simp only at this
      refine ⟨fun h' => ?_, this.2⟩
      rw [this.1 h']
      simp

/-- the bounds that hold along the way -/
theorem St.run_bounds (s : St) (es : List Ev) (T : Nat) (ht : tot 0 (es.map fun e => e.dat.n) ≤ T) :
    s.u ≤ (s.run es).u ∧ (s.run es).u ≤ s.u + tot 0 (es.map fun e => e.dat.n) ∧ (s.run es).P.length ≤ s.P.length + es.length ∧ (s.run es).Q.length ≤ s.Q.length := by
  clear ht T
  induction es generalizing s with
  | nil => simp [St.run, tot]
  | cons e r ih =>
    rw [St.run_cons]
    have h1 := ih (s.step e)
    have h2 : s.u ≤ (s.step e).u ∧ (s.step e).u ≤ s.u + e.dat.n ∧ (s.step e).P.length ≤ s.P.length + 1 ∧ (s.step e).Q.length ≤ s.Q.length := by
      unfold St.step
      split
      · refine ⟨by omega, by omega, by omega, by omega⟩
      · split
        · refine ⟨by simp; omega, by simp, by simp, by simp⟩
        · refine ⟨by simp; omega, by simp, by simp, by simp⟩
    simp only [List.map_cons, tot, List.length_cons]
    refine ⟨by omega, by omega, by omega, by omega⟩

theorem evs_names (N : List ByteArray) (I : List Int) (D : List Sl) (h1 : I.length = N.length) (h2 : D.length = N.length) : (evs N I D).map Ev.name = N := by
  induction N generalizing I D with
  | nil => cases I <;> cases D <;> simp_all [evs]
  | cons n ns ih =>
    match I, D, h1, h2 with
    | j :: js, e :: es, h1, h2 => simp only [evs, List.map_cons]; rw [ih js es (by simpa using h1) (by simpa using h2)]
theorem evs_ids (N : List ByteArray) (I : List Int) (D : List Sl) (h1 : I.length = N.length) (h2 : D.length = N.length) : (evs N I D).map Ev.id = I := by
  induction N generalizing I D with
  | nil => cases I <;> cases D <;> simp_all [evs]
  | cons n ns ih =>
    match I, D, h1, h2 with
    | j :: js, e :: es, h1, h2 => simp only [evs, List.map_cons]; rw [ih js es (by simpa using h1) (by simpa using h2)]
theorem evs_dats (N : List ByteArray) (I : List Int) (D : List Sl) (h1 : I.length = N.length) (h2 : D.length = N.length) : (evs N I D).map Ev.dat = D := by
  induction N generalizing I D with
  | nil => cases I <;> cases D <;> simp_all [evs]
  | cons n ns ih =>
    match I, D, h1, h2 with
    | j :: js, e :: es, h1, h2 => simp only [evs, List.map_cons]; rw [ih js es (by simpa using h1) (by simpa using h2)]

end Go.Proofs.Qxb6613968a
