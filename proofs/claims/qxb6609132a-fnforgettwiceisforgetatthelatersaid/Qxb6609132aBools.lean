import Derived.Test.Qxb6609132aTwice
import Derived.Test.Qxb6609132aBuildFins
namespace Go.Proofs.Qxb6609132a
open Go.RowKit Go.Maps

/-- Every element of the map is true. -/
def Bools (D : DataW Value) : Prop := ∃ es, D = .map es ∧ ∀ p ∈ es, p.2 = .held (.bool true)

theorem mem_insert {x p : Lit × DataW Value} : ∀ {l : List (Lit × DataW Value)}, p ∈ DataW.insert x l → p = x ∨ p ∈ l
  | [], h => by simpa [DataW.insert] using h
  | y :: r, h => by
    unfold DataW.insert at h
    split at h
    · simpa using h
    · rcases List.mem_cons.1 h with h | h
      · exact .inr (by rw [h]; exact List.mem_cons_self)
      · rcases mem_insert h with h | h
        · exact .inl h
        · exact .inr (List.mem_cons_of_mem _ h)

theorem Bools.put {D : DataW Value} (h : Bools D) (k : Lit) : Bools (D.put k (.held (.bool true))) := by
  obtain ⟨es, rfl, h⟩ := h
  refine ⟨_, rfl, fun p hp => ?_⟩
  rcases mem_insert hp with rfl | hp
  · rfl
  · exact h p (List.mem_filter.1 hp).1

theorem Bools.del {D : DataW Value} (h : Bools D) (pd : Lit → DataW Value → Bool) : Bools (Lib.deleteFuncD pd D) := by
  obtain ⟨es, rfl, h⟩ := h
  exact ⟨_, rfl, fun p hp => h p (List.mem_filter.1 hp).1⟩

theorem bools_fold : ∀ (fs : List DetD) (D : DataW Value), Bools D → Bools (fs.foldl (fun E d => E.put (keyD d.ini d.at') (.held (.bool true))) D)
  | [], _, h => h
  | _ :: r, _, h => bools_fold r _ (h.put _)
theorem bools_runE (fs : List DetD) : Bools (runE fs) := bools_fold fs _ ⟨[], rfl, by simp⟩

theorem Bools.at {D : DataW Value} (h : Bools D) (k : Lit) : ∃ b, D.atKey k (.held (.bool false)) = .held (.bool b) := by
  obtain ⟨es, rfl, h⟩ := h
  simp only [DataW.atKey]
  cases hf : es.find? (fun p => p.1.sameKey k) with
  | none => exact ⟨false, rfl⟩
  | some p => exact ⟨true, h p (List.mem_of_find?_eq_some hf)⟩

theorem zero4 (w : World) : (zeroValue 4).run Try.prog w = .ok (.bool false) w := by kernel_rfl

/-- What the ended map says of a detection. -/
theorem looked {w : World} {b n : Nat} {D : DataW Value} (h : w.ownsMap Try.prog 36 rawElem b n D) {s : ByteArray} {a : Int} (hs : s.size ≤ maxLen) (ha : (Lit.int .i64 a).wf = true) {q : Bool} (hq : D.atKey (keyD s a) (.held (.bool false)) = .held (.bool q)) :
    (Instr.lookup 33 (.map (some b)) (.agg #[.string s, .int .i64 a]) false).run Try.prog w = .ok (.bool q) w := by
  obtain ⟨v, ps, hrun, hv⟩ := h.lookup law36 Try.underlying33 (zero4 w) (zd := .held (.bool false)) (zp := []) rfl (keyOf36 hs ha)
  rw [hq] at hv
  simp only [rawElem, Option.some.injEq, Prod.mk.injEq, DataW.held.injEq] at hv
  rw [hrun, hv.1]

end Go.Proofs.Qxb6609132a
