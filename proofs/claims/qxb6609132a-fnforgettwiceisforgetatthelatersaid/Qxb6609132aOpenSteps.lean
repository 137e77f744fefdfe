import Derived.Test.Qxb6609132aOpen
import Derived.Test.Qxb6609132aSteps
namespace Go.Proofs.Qxb6609132a
open Go.ChangeShapes Go.WideShapes Go.ChangeAt Go.RowKit

theorem list_of {α : Type} (n : Nat) {Q : Nat → α → Prop} (h : ∀ i, i < n → ∃ s, Q i s) : ∃ l : List α, l.length = n ∧ ∀ i s, l[i]? = some s → Q i s := by
  induction n with
  | zero => exact ⟨[], rfl, by simp⟩
  | succ n ih =>
    obtain ⟨l, h1, h2⟩ := ih (fun i hi => h i (by omega))
    obtain ⟨s, hs⟩ := h n (by omega)
    refine ⟨l ++ [s], by simp [h1], fun i s' hi => ?_⟩
    by_cases hlt : i < n
    · rw [List.getElem?_append_left (by omega)] at hi
      exact h2 i s' hi
    · have hl := (List.getElem?_eq_some_iff.1 hi).1
      have e : i = n := by simp [h1] at hl; omega
      subst e
      rw [List.getElem?_append_right (by omega), h1] at hi
      simp at hi
      subst hi
      exact hs

set_option maxRecDepth 20000 in
theorem step_of {H : Type} {enc : TypeId × Value → H} {w : World} {base : Nat} {spare : Nat → Bool} {held : Bool} {n : Nat} {b o : Nat} {y : DataW H × List MemPlace}
    (h : (w.cells? base ⟨b, o, none⟩ 5).bind (DataW.trod enc Try.prog w base spare held n 47) = some y) : ∃ s : StepD, StepAt w b o s ∧ s.p.size ≤ maxLen := by
  rw [Option.bind_eq_some_iff] at h
  obtain ⟨cs, hcs, hy⟩ := h
  obtain ⟨_, hlen, hcell⟩ := World.cells?_some hcs
  obtain ⟨xs, m, _, _, _, hxl, hf⟩ := DataW.trod_struct Try.underlying47 hy
  match cs, hlen with
  | [v0, v1, v2, v3, v4], _ =>
    match xs, hxl with
    | [y0, y1, y2, y3, y4], _ =>
      have e9 : Try.prog.cellsOf 9 = 1 := by kernel_rfl
      have e4 : Try.prog.cellsOf 4 = 1 := by kernel_rfl
      have e3 : Try.prog.cellsOf 3 = 1 := by kernel_rfl
      have e22 : Try.prog.cellsOf 22 = 1 := by kernel_rfl
      have e2 : Try.prog.cellsOf 2 = 1 := by kernel_rfl
      have t0 : DataW.trod enc Try.prog w base spare held m 9 [v0] = some y0 := by
        have h := hf 0 _ rfl
        change DataW.trod enc Try.prog w base spare held m 9 (([v0, v1, v2, v3, v4].drop 0).take (Try.prog.cellsOf 9)) = some y0 at h
        rw [e9] at h
        exact h
      have t1 : DataW.trod enc Try.prog w base spare held m 4 [v1] = some y1 := by
        have h := hf 1 _ rfl
        change DataW.trod enc Try.prog w base spare held m 4 (([v0, v1, v2, v3, v4].drop 1).take (Try.prog.cellsOf 4)) = some y1 at h
        rw [e4] at h
        exact h
      have t2 : DataW.trod enc Try.prog w base spare held m 3 [v2] = some y2 := by
        have h := hf 2 _ rfl
        change DataW.trod enc Try.prog w base spare held m 3 (([v0, v1, v2, v3, v4].drop 2).take (Try.prog.cellsOf 3)) = some y2 at h
        rw [e3] at h
        exact h
      have t3 : DataW.trod enc Try.prog w base spare held m 22 [v3] = some y3 := by
        have h := hf 3 _ rfl
        change DataW.trod enc Try.prog w base spare held m 22 (([v0, v1, v2, v3, v4].drop 3).take (Try.prog.cellsOf 22)) = some y3 at h
        rw [e22] at h
        exact h
      have t4 : DataW.trod enc Try.prog w base spare held m 2 [v4] = some y4 := by
        have h := hf 4 _ rfl
        change DataW.trod enc Try.prog w base spare held m 2 (([v0, v1, v2, v3, v4].drop 4).take (Try.prog.cellsOf 2)) = some y4 at h
        rw [e2] at h
        exact h
      obtain ⟨p, q0, _, hp⟩ := DataW.trod_string Try.underlying9 t0
      obtain ⟨dn, q1, _⟩ := DataW.trod_bool Try.underlying4 t1
      obtain ⟨md, q2, _⟩ := DataW.trod_int Try.underlying3 t2
      obtain ⟨at', q4, _⟩ := DataW.trod_int Try.underlying2 t4
      simp at q0 q1 q2 q4
      subst q0 q1 q2 q4
      have hv3 : ∃ oa ol oc, v3 = .slice oa ol oc := by
        rcases DataW.trod_slice Try.underlying22 t3 with ⟨q3, _⟩ | ⟨a, l, c, _, _, _, _, q3, _⟩
        · simp at q3; exact ⟨_, _, _, q3⟩
        · simp at q3; exact ⟨_, _, _, q3⟩
      obtain ⟨oa, ol, oc, rfl⟩ := hv3
      obtain ⟨ss, rfl, n1, s1, _, m1⟩ := open_strs22 t3
      have c0 := hcell 0 (by omega)
      have c1 := hcell 1 (by omega)
      have c2 := hcell 2 (by omega)
      have c3 := hcell 3 (by omega)
      have c4 := hcell 4 (by omega)
      simp only [Addr.add_lit] at c0 c1 c2 c3 c4
      refine ⟨⟨p, dn, md, ss, at', oa, oc⟩, ⟨?_, ?_, ?_, ?_, ?_, s1, n1, ?_⟩, hp⟩
      · simpa using c0
      · simpa using c1
      · simpa using c2
      · simpa using c3
      · simpa using c4
      · unfold maxLen at m1; show ss.length ≤ _; omega

/-- A slice of steps that came in, as the walks take it. -/
theorem open_steps40 {H : Type} {enc : TypeId × Value → H} {w : World} {base : Nat} {spare : Nat → Bool} {held : Bool} {a : Option Addr} {len cap fuel : Nat} {x : DataW H × List MemPlace}
    (h : DataW.trod enc Try.prog w base spare held fuel 40 [.slice a len cap] = some x) :
    ∃ st : List StepD, st.length = len ∧ (a = none → st = []) ∧ StepsAt w a st ∧ (∀ (i : Nat) (s : StepD), st[i]? = some s → s.p.size ≤ maxLen) ∧ len ≤ maxLen := by
  have e47 : Try.prog.cellsOf 47 = 5 := by kernel_rfl
  rcases DataW.trod_slice Try.underlying40 h with ⟨hcs, _⟩ | ⟨y, l, c, elems, rest, n, _, hcs, _, hb, hl, hm, hlen, hel, _, _⟩
  · simp at hcs
    obtain ⟨rfl, rfl, rfl⟩ := hcs
    exact ⟨[], rfl, fun _ => rfl, .inl rfl, by simp, Nat.zero_le _⟩
  · simp at hcs
    obtain ⟨rfl, rfl, rfl⟩ := hcs
    rw [e47] at hel
    by_cases h0 : len = 0
    · subst h0
      exact ⟨[], rfl, fun _ => rfl, .inl rfl, by simp, Nat.zero_le _⟩
    · have hy : y.add 0 = y := by simp [Addr.add]
      have hsp : y.spot = none := by
        have := hel 0 (by omega)
        rw [List.getElem?_eq_getElem (by omega), Option.bind_eq_some_iff] at this
        obtain ⟨cs, hcs, _⟩ := this
        have hc0 := (World.cells?_some hcs).2.2 0 (by omega)
        simp only [Nat.zero_mul, hy] at hc0
        rw [List.getElem?_eq_getElem (by have := (World.cells?_some hcs).2.1; omega)] at hc0
        exact spot_none hc0
      obtain ⟨yb, yo, ys⟩ := y
      simp only at hsp
      subst hsp
      have each : ∀ i, i < len → ∃ s : StepD, StepAt w yb (yo + i * 5) s ∧ s.p.size ≤ maxLen := fun i hi => by
        have := hel i hi
        rw [List.getElem?_eq_getElem (by omega)] at this
        rw [Addr.add_lit] at this
        exact step_of this
      obtain ⟨st, h1, h2⟩ := list_of len each
      refine ⟨st, h1, fun e => (by cases e), .inr ⟨yb, yo, rfl, fun i s hi => (h2 i s hi).1⟩, fun i s hi => (h2 i s hi).2, by omega⟩

end Go.Proofs.Qxb6609132a
