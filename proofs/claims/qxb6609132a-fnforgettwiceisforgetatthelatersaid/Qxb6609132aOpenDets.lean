import Derived.Test.Qxb6609132aOpenSteps
import Derived.Test.Qxb6609132aDets
namespace Go.Proofs.Qxb6609132a
open Go.ChangeShapes Go.WideShapes Go.ChangeAt Go.RowKit

set_option maxRecDepth 20000 in
theorem det_of {H : Type} {enc : TypeId × Value → H} {w : World} {base : Nat} {spare : Nat → Bool} {held : Bool} {n : Nat} {b o : Nat} {y : DataW H × List MemPlace}
    (h : (w.cells? base ⟨b, o, none⟩ 2).bind (DataW.trod enc Try.prog w base spare held n 60) = some y) : ∃ s : DetD, w.cell? ⟨b, o, none⟩ = some (.string s.ini) ∧ w.cell? ⟨b, o + 1, none⟩ = some (.int .i64 s.at') ∧ s.ini.size ≤ maxLen ∧ (Lit.int .i64 s.at').wf = true := by
  rw [Option.bind_eq_some_iff] at h
  obtain ⟨cs, hcs, hy⟩ := h
  obtain ⟨_, hlen, hcell⟩ := World.cells?_some hcs
  obtain ⟨xs, m, _, _, _, hxl, hf⟩ := DataW.trod_struct Try.underlying60 hy
  match cs, hlen with
  | [v0, v1], _ =>
    match xs, hxl with
    | [y0, y1], _ =>
      have e9 : Try.prog.cellsOf 9 = 1 := by kernel_rfl
      have e2 : Try.prog.cellsOf 2 = 1 := by kernel_rfl
      have t0 : DataW.trod enc Try.prog w base spare held m 9 [v0] = some y0 := by
        have h := hf 0 _ rfl
        change DataW.trod enc Try.prog w base spare held m 9 (([v0, v1].drop 0).take (Try.prog.cellsOf 9)) = some y0 at h
        rw [e9] at h
        exact h
      have t1 : DataW.trod enc Try.prog w base spare held m 2 [v1] = some y1 := by
        have h := hf 1 _ rfl
        change DataW.trod enc Try.prog w base spare held m 2 (([v0, v1].drop 1).take (Try.prog.cellsOf 2)) = some y1 at h
        rw [e2] at h
        exact h
      obtain ⟨p, q0, _, hp⟩ := DataW.trod_string Try.underlying9 t0
      obtain ⟨at', q1, _, hw⟩ := DataW.trod_int Try.underlying2 t1
      simp at q0 q1
      subst q0 q1
      have c0 := hcell 0 (by omega)
      have c1 := hcell 1 (by omega)
      simp only [Addr.add_lit] at c0 c1
      exact ⟨⟨p, at'⟩, by simpa using c0, by simpa using c1, hp, hw⟩

/-- A slice of detections that came in, as the walks take it. -/
theorem open_dets55 {H : Type} {enc : TypeId × Value → H} {w : World} {base : Nat} {spare : Nat → Bool} {held : Bool} {a : Option Addr} {len cap fuel : Nat} {x : DataW H × List MemPlace}
    (h : DataW.trod enc Try.prog w base spare held fuel 55 [.slice a len cap] = some x) :
    ∃ fs : List DetD, fs.length = len ∧ (a = none → fs = []) ∧ DetsAt w a fs ∧ len ≤ maxLen := by
  have e60 : Try.prog.cellsOf 60 = 2 := by kernel_rfl
  rcases DataW.trod_slice Try.underlying55 h with ⟨hcs, _⟩ | ⟨y, l, c, elems, rest, n, _, hcs, _, hb, hl, hm, hlen, hel, _, _⟩
  · simp at hcs
    obtain ⟨rfl, rfl, rfl⟩ := hcs
    exact ⟨[], rfl, fun _ => rfl, .inl rfl, Nat.zero_le _⟩
  · simp at hcs
    obtain ⟨rfl, rfl, rfl⟩ := hcs
    rw [e60] at hel
    by_cases h0 : len = 0
    · subst h0
      exact ⟨[], rfl, fun _ => rfl, .inl rfl, Nat.zero_le _⟩
    · have hy : y.add 0 = y := by simp [Addr.add]
      have hsp : y.spot = none := by
        have := hel 0 (by omega)
        rw [List.getElem?_eq_getElem (by omega), Option.bind_eq_some_iff] at this
        obtain ⟨cs, hcs, _⟩ := this
        have hc0 := (World.cells?_some hcs).2.2 0 (by omega)
        simp only [Nat.zero_mul, hy] at hc0
        rw [List.getElem?_eq_getElem (by have := (World.cells?_some hcs).2.1; omega)] at hc0
        exact spot_none hc0
      obtain ⟨yb, yo, ys⟩ := y
      simp only at hsp
      subst hsp
      have each : ∀ i, i < len → ∃ s : DetD, w.cell? ⟨yb, yo + i * 2, none⟩ = some (.string s.ini) ∧ w.cell? ⟨yb, yo + i * 2 + 1, none⟩ = some (.int .i64 s.at') ∧ s.ini.size ≤ maxLen ∧ (Lit.int .i64 s.at').wf = true := fun i hi => by
        have := hel i hi
        rw [List.getElem?_eq_getElem (by omega)] at this
        rw [Addr.add_lit] at this
        exact det_of this
      obtain ⟨fs, h1, h2⟩ := list_of len each
      exact ⟨fs, h1, fun e => (by cases e), .inr ⟨yb, yo, rfl, h2⟩, by omega⟩

end Go.Proofs.Qxb6609132a
