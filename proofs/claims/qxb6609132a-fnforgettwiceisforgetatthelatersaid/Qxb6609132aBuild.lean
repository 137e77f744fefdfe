import Derived.Test.Qxb6609132aCloneSteps
namespace Go.Proofs.Qxb6609132a
open Go.RowKit Go.Maps

/-! ### What a script does, in plain words -/
def stepF (f : ByteArray → Option Rec) (s : StepC) : ByteArray → Option Rec :=
  if s.done = true then upd f s.p none else match s.on with | [] => f | _ :: _ => upd f s.p (some ⟨s.model, s.on, s.at'⟩)
def stepBg (ls : List ByteArray) (bg : List Int) (s : StepC) : List Int :=
  if s.done = true then bg else match s.on with | [] => bg | _ :: _ => bgNext ls bg s.p s.at'
def runF (st : List StepC) : ByteArray → Option Rec := st.foldl stepF (fun _ => none)
def runBg (ls : List ByteArray) (st : List StepC) : List Int := st.foldl (stepBg ls) []

theorem runF_snoc (st : List StepC) (s : StepC) : runF (st ++ [s]) = stepF (runF st) s := by simp [runF, List.foldl_append]
theorem runBg_snoc (ls : List ByteArray) (st : List StepC) (s : StepC) : runBg ls (st ++ [s]) = stepBg ls (runBg ls st) s := by simp [runBg, List.foldl_append]

theorem pairwise_insAt {zs : List Int} {i : Nat} {x : Int} (hs : zs.Pairwise (· ≤ ·)) (h1 : ∀ y ∈ zs.take i, y ≤ x) (h2 : ∀ y ∈ zs.drop i, x ≤ y) : (insAt zs i x).Pairwise (· ≤ ·) := by
  unfold insAt
  have e : zs.take i ++ zs.drop i = zs := List.take_append_drop i zs
  rw [← e, List.pairwise_append] at hs
  obtain ⟨a1, a2, a3⟩ := hs
  rw [List.pairwise_append, List.pairwise_cons]
  refine ⟨a1, ⟨h2, a2⟩, fun y hy z hz => ?_⟩
  rcases List.mem_cons.1 hz with rfl | hz
  · exact h1 y hy
  · exact a3 y hy z hz

theorem countP_split {zs : List Int} (hs : zs.Pairwise (· ≤ ·)) (x : Int) : (∀ y ∈ zs.take (zs.countP (· < x)), y < x) ∧ (∀ y ∈ zs.drop (zs.countP (· < x)), x ≤ y) := by
  induction zs with
  | nil => simp
  | cons z r ih =>
    obtain ⟨h1, h2⟩ := List.pairwise_cons.1 hs
    by_cases hz : z < x
    · have e : (z :: r).countP (· < x) = r.countP (· < x) + 1 := by simp [hz]
      rw [e, List.take_succ_cons, List.drop_succ_cons]
      obtain ⟨i1, i2⟩ := ih h2
      refine ⟨fun y hy => ?_, i2⟩
      rcases List.mem_cons.1 hy with rfl | hy
      · exact hz
      · exact i1 y hy
    · have e : (z :: r).countP (· < x) = 0 := by
        rw [List.countP_eq_zero]
        intro y hy
        rcases List.mem_cons.1 hy with rfl | hy
        · simpa using hz
        · have := h1 y hy
          simp only [decide_eq_true_eq]
          omega
      rw [e]
      refine ⟨by simp, fun y hy => ?_⟩
      simp only [List.drop_zero] at hy
      rcases List.mem_cons.1 hy with rfl | hy
      · omega
      · have := h1 y hy
        omega

theorem sorted_next {ls : List ByteArray} {bg : List Int} {p : ByteArray} {t : Int} (h : bg.Pairwise (· ≤ ·)) : (bgNext ls bg p t).Pairwise (· ≤ ·) := by
  unfold bgNext
  split
  · obtain ⟨a, b⟩ := countP_split h t
    exact pairwise_insAt h (fun y hy => Int.le_of_lt (a y hy)) b
  · exact h
theorem length_next {ls : List ByteArray} {bg : List Int} {p : ByteArray} {t : Int} : (bgNext ls bg p t).length ≤ bg.length + 1 := by
  unfold bgNext
  split
  · rw [length_insAt List.countP_le_length]; omega
  · omega

theorem run_sorted (ls : List ByteArray) : ∀ (st : List StepC) (bg : List Int), bg.Pairwise (· ≤ ·) → (st.foldl (stepBg ls) bg).Pairwise (· ≤ ·) ∧ (st.foldl (stepBg ls) bg).length ≤ bg.length + st.length
  | [], bg, h => ⟨h, by simp⟩
  | s :: r, bg, h => by
    have key : (stepBg ls bg s).Pairwise (· ≤ ·) ∧ (stepBg ls bg s).length ≤ bg.length + 1 := by
      unfold stepBg
      split
      · exact ⟨h, by omega⟩
      · split
        · exact ⟨h, by omega⟩
        · exact ⟨sorted_next h, length_next⟩
    have := run_sorted ls r (stepBg ls bg s) key.1
    refine ⟨this.1, ?_⟩
    have h2 := this.2
    have h3 := key.2
    simp only [List.foldl_cons, List.length_cons]
    omega

theorem runBg_sorted (ls : List ByteArray) (st : List StepC) : (runBg ls st).Pairwise (· ≤ ·) := (run_sorted ls st [] List.Pairwise.nil).1
theorem runBg_length (ls : List ByteArray) (st : List StepC) : (runBg ls st).length ≤ st.length := by have := (run_sorted ls st [] List.Pairwise.nil).2; simpa [runBg] using this

/-! ### The calls -/
section
variable {B : Nat} {L : Lay} {tick : Int} {ls : List ByteArray} {N : Nat} {f : ByteArray → Option Rec} {bg : List Int} {E : DataW Value} {fg : Int}

theorem Inv.more {w : World} (h : Inv B L tick ls N f bg E fg w) {N' : Nat} (hN : N ≤ N') : Inv B L tick ls N' f bg E fg w := by
  obtain ⟨D, d1, d2⟩ := h.waits
  exact ⟨h.lay, h.site, h.box, ⟨D, d1.mono hN, d2⟩, h.walked, h.ended.mono hN, h.aborted, h.engaged⟩

/-- One step of a script, told to the site: a wait. -/
theorem wait_any (w : World) (h : Inv B L tick ls N f bg E fg w) (hN : N < maxLen) (hm : ls.length ≤ 9223372036854775807) (hbg : bg.length ≤ 1048575) (hso : bg.Pairwise (· ≤ ·)) (s : StepC) (hd : s.done = false) (hp : s.p.size ≤ maxLen)
    (oa : Option Addr) (oc : Nat) (hon : s.on.length ≤ 1048576) (hs : Strs w oa s.on) :
    Calls Try.prog 41 #[.pointer (some ⟨L.sb, 0, none⟩), .string s.p, .int .i64 s.model, .slice oa s.on.length oc, .int .i64 s.at'] w fun e w' => e = .returned (.tuple #[]) ∧
      Inv B L tick ls (N + 1) (stepF f s) (stepBg ls bg s) E fg w' ∧ Below B w w' ∧ RowsKept w w' := by
  obtain ⟨p, done, m, on, t⟩ := s
  simp only at hd hp hon hs ⊢
  subst hd
  cases on with
  | nil =>
    refine (wait_none w L.sb p m t oa oc).mono ?_
    rintro e w' ⟨rfl, rfl⟩
    exact ⟨rfl, h.more (Nat.le_succ _), Below.refl _ _, RowsKept.refl _⟩
  | cons q r =>
    rcases hs with h0 | ⟨b, off, rfl, hc⟩
    · cases h0
    · refine (wait_some w h hN hm hbg hso p hp m t b off (q :: r) oc (by simp) hon hc).mono ?_
      rintro e w' ⟨rfl, h1, h2, h3⟩
      exact ⟨rfl, h1, h2, h3⟩
end

/-- Steps as zzCloneSteps hands them on. -/
def StepsRun (B : Nat) (w : World) (a : Option Addr) (st : List StepD) : Prop := st = [] ∨ ∃ g, a = some ⟨g, 0, none⟩ ∧ StepsOwn B w g st

theorem StepsRun.rows {B : Nat} {w w' : World} {a : Option Addr} {st : List StepD} (h : StepsRun B w a st) (hk : RowsKept w w') : StepsRun B w' a st := by
  rcases h with h | ⟨g, h1, h2, h3, h4⟩
  · exact .inl h
  · refine .inr ⟨g, h1, hk g _ 47 (by decide) (by decide) h2, fun s hs => ?_, h4⟩
    have ho := h3 s hs
    refine ⟨ho.1, ?_⟩
    rcases ho.2 with h5 | ⟨g', cap, cur, hv, hb, hh, r⟩
    · exact .inl h5
    · exact .inr ⟨g', cap, cur, hv, hb, hk g' cur 9 (by decide) (by decide) hh, r⟩

theorem cloneSteps_any (a : Option Addr) (st : List StepD) (cap : Nat) (w : World) (hm : st.length ≤ 4096) (hn : a = none → st = []) (hs : StepsAt w a st) (hon : ∀ (i : Nat) (s : StepD), st[i]? = some s → s.on.length ≤ 1048576) :
    Calls Try.prog 40 #[.slice a st.length cap] w fun e w' => ∃ a' c' st', e = .returned (.slice a' st.length c') ∧ st'.map StepD.c = st.map StepD.c ∧ StepsRun w.heap.size w' a' st' ∧ w.grownBy w' none := by
  cases a with
  | none =>
    have := hn rfl
    subst this
    refine (cloneSteps_nil cap w).mono ?_
    rintro e w' ⟨rfl, rfl⟩
    exact ⟨none, 0, [], rfl, rfl, .inl rfl, World.grownBy.refl _ _⟩
  | some x =>
    refine (cloneSteps_some x st cap w hm hs hon).mono ?_
    rintro e w' ⟨rfl, ⟨st', h1, h2⟩, h3⟩
    exact ⟨_, _, st', rfl, h1, .inr ⟨_, rfl, h2⟩, h3⟩

end Go.Proofs.Qxb6609132a
