import Derived.Test.Qxb6609132aInv
namespace Go.Proofs.Qxb6609132a
open Go.RowKit Go.Maps

theorem row36 : (36 : TypeId) < Try.prog.types.size := of_decide_eq_true (by kernel_rfl)
theorem wide36 : (match Try.prog.underlying 36 with | some (.array _ _) | some (.struct _) => true | _ => false) = true := by kernel_rfl
set_option maxRecDepth 100000 in
theorem law36 : Keyed Try.prog 36 := Keyed.of_law (deep_law_laid laidOut (m := 2) (by omega) row36 (by kernel_rfl) wide36)
theorem cells36 : Try.prog.cellsOf 36 = 2 := by kernel_rfl
theorem cells9 : Try.prog.cellsOf 9 = 1 := by kernel_rfl
theorem cells29 : Try.prog.cellsOf 29 = 1 := by kernel_rfl
theorem keyType36 : Try.prog.keyType 36 = true := by kernel_rfl

/-- A detection as a map's key. -/
def keyD (s : ByteArray) (a : Int) : Lit := .string (keyBytes [.string s.data.toList, .int .i64 a])

theorem keyLits9 (d : Nat) (x : Value) : Try.prog.keyLits (d + 1) 9 [x] = (match x with | .string s => if s.size ≤ maxLen then some [.string s.data.toList] else none | _ => none) := by
  cases x <;> simp [Program.keyLits, Try.underlying9]
theorem keyLits29 (d : Nat) (x : Value) : Try.prog.keyLits (d + 1) 29 [x] = (match x with | .int q n => if q = .i64 ∧ (Lit.int .i64 n).wf = true then some [.int .i64 n] else none | _ => none) := by
  cases x <;> simp [Program.keyLits, Try.underlying29]
theorem keyLits9_inv {d : Nat} {x : Value} {l : List Lit} (h : Try.prog.keyLits (d + 1) 9 [x] = some l) : ∃ s : ByteArray, x = .string s ∧ s.size ≤ maxLen ∧ l = [.string s.data.toList] := by
  rw [keyLits9] at h
  cases x with
  | string s =>
    simp only at h
    by_cases hs : s.size ≤ maxLen
    · rw [if_pos hs] at h
      exact ⟨s, rfl, hs, (Option.some.inj h).symm⟩
    · rw [if_neg hs] at h; cases h
  | _ => cases h
theorem keyLits29_inv {d : Nat} {x : Value} {l : List Lit} (h : Try.prog.keyLits (d + 1) 29 [x] = some l) : ∃ a : Int, x = .int .i64 a ∧ (Lit.int .i64 a).wf = true ∧ l = [.int .i64 a] := by
  rw [keyLits29] at h
  cases x with
  | int q n =>
    simp only at h
    by_cases hs : q = .i64 ∧ (Lit.int .i64 n).wf = true
    · rw [if_pos hs] at h
      obtain ⟨rfl, hw⟩ := hs
      exact ⟨n, rfl, hw, (Option.some.inj h).symm⟩
    · rw [if_neg hs] at h; cases h
  | _ => cases h
theorem keyLits36 (d : Nat) (x y : Value) : Try.prog.keyLits (d + 2) 36 [x, y] = (Try.prog.keyLits (d + 1) 9 [x]).bind fun a => (Try.prog.keyLits (d + 1) 29 [y]).map fun b => a ++ b := by
  rw [Program.keyLits.eq_def]
  simp only [Try.underlying36, cells36]
  generalize h1 : Try.prog.keyLits (d + 1) 9 [x] = u
  generalize h2 : Try.prog.keyLits (d + 1) 29 [y] = v
  have e1 : Try.prog.keyLits (d + 1) 9 (List.take (Try.prog.cellsOf 9) (List.drop 0 [x, y])) = u := by rw [cells9]; exact h1
  have e2 : Try.prog.keyLits (d + 1) 29 (List.take (Try.prog.cellsOf 29) (List.drop 1 [x, y])) = v := by rw [cells29]; exact h2
  simp only [List.mapM_cons, List.mapM_nil, e1, e2]
  cases u <;> cases v <;> simp

theorem types_size : Try.prog.types.size + 1 = (Try.prog.types.size - 1) + 2 := by
  have h : (36 : Nat) < Try.prog.types.size := row36
  generalize Try.prog.types.size = n at h
  omega

theorem formed36 {x y : Value} : (Value.agg #[x, y]).formed Try.prog 36 = true := by simp [Value.formed, Try.underlying36, cells36]

theorem keyOf36 {s : ByteArray} {a : Int} (hs : s.size ≤ maxLen) (ha : (Lit.int .i64 a).wf = true) : keyOf Try.prog 36 (.agg #[.string s, .int .i64 a]) = some (keyD s a) := by
  unfold keyOf
  rw [Try.underlying36]
  simp only [keyType36, formed36, Bool.and_self, if_true]
  show Option.map _ (Try.prog.keyLits (Try.prog.types.size + 1) 36 [.string s, .int .i64 a]) = _
  rw [types_size, keyLits36, keyLits9, keyLits29]
  simp [hs, ha, keyD]

set_option maxRecDepth 100000 in
theorem keyOf36_inv {v : Value} {kl : Lit} (h : keyOf Try.prog 36 v = some kl) : ∃ s a, v = .agg #[.string s, .int .i64 a] ∧ kl = keyD s a ∧ s.size ≤ maxLen ∧ (Lit.int .i64 a).wf = true := by
  unfold keyOf at h
  rw [Try.underlying36] at h
  simp only [keyType36, Bool.true_and] at h
  by_cases hf : v.formed Try.prog 36 = true
  · rw [if_pos hf] at h
    cases v with
    | agg cs =>
      obtain ⟨l⟩ := cs
      have hsz : l.length = 2 := by simpa [Value.formed, Try.underlying36, cells36] using hf
      match l, hsz with
      | [x, y], _ =>
        have h : Option.map (fun ls => Lit.string (keyBytes ls)) (Try.prog.keyLits (Try.prog.types.size + 1) 36 [x, y]) = some kl := h
        rw [types_size, keyLits36] at h
        obtain ⟨ls, h1, h2⟩ := Option.map_eq_some_iff.1 h
        obtain ⟨u, h3, h4⟩ := Option.bind_eq_some_iff.1 h1
        obtain ⟨t, h5, h6⟩ := Option.map_eq_some_iff.1 h4
        obtain ⟨s, rfl, hs, rfl⟩ := keyLits9_inv h3
        obtain ⟨a, rfl, ha, rfl⟩ := keyLits29_inv h5
        exact ⟨s, a, rfl, by rw [← h2, ← h6]; rfl, hs, ha⟩
    | _ => simp [Value.formed, Try.underlying36] at hf
  · rw [if_neg hf] at h; cases h

theorem keyD_inj {s s' : ByteArray} {a a' : Int} (hs : s.size ≤ maxLen) (hs' : s'.size ≤ maxLen) (ha : (Lit.int .i64 a).wf = true) (ha' : (Lit.int .i64 a').wf = true) (h : keyD s a = keyD s' a') : s = s' ∧ a = a' := by
  have h1 := keyOf36 hs ha
  have h2 := keyOf36 hs' ha'
  rw [← h] at h2
  have := law36.inj h1 h2
  simp at this
  exact this

end Go.Proofs.Qxb6609132a
