import Derived.Test.Qxb6609132aForget
namespace Go.Proofs.Qxb6609132a
open Go.RowKit Go.Maps

theorem count_drop {b : Int} : ∀ (bg : List Int), bg.Pairwise (· ≤ ·) → ∀ k, (bg.drop k).countP (· < b) = bg.countP (· < b) - k
  | [], _, k => by simp
  | x :: xs, h, 0 => by simp
  | x :: xs, h, k + 1 => by
    rw [List.pairwise_cons] at h
    rw [List.drop_succ_cons, count_drop xs h.2 k, List.countP_cons]
    by_cases hx : x < b
    · simp [hx]
    · have h0 : xs.countP (· < b) = 0 := by
        rw [List.countP_eq_zero]
        intro y hy
        have := h.1 y hy
        simp only [decide_eq_true_eq]
        omega
      simp [hx, h0]

theorem cutBg_drop (bg : List Int) (b : Int) : cutBg bg b = bg.drop (bg.countP (· < b) - 1) := by
  unfold cutBg
  by_cases h : 1 < bg.countP (· < b)
  · rw [if_pos h]
  · rw [if_neg h, show bg.countP (· < b) - 1 = 0 by omega, List.drop_zero]

theorem cutBg_sorted {bg : List Int} (h : bg.Pairwise (· ≤ ·)) (b : Int) : (cutBg bg b).Pairwise (· ≤ ·) := by rw [cutBg_drop]; exact h.drop
theorem cutBg_length (bg : List Int) (b : Int) : (cutBg bg b).length ≤ bg.length := by rw [cutBg_drop]; simp

theorem count_mono {bg : List Int} {a b : Int} (h : a ≤ b) : bg.countP (· < a) ≤ bg.countP (· < b) := List.countP_mono_left fun x _ hx => by
  simp only [decide_eq_true_eq] at hx ⊢
  omega

theorem cutBg_twice {bg : List Int} (h : bg.Pairwise (· ≤ ·)) (b1 b2 : Int) : cutBg (cutBg bg b1) b2 = cutBg bg (mx b1 b2) := by
  rw [cutBg_drop (cutBg bg b1), cutBg_drop bg b1, cutBg_drop bg (mx b1 b2), count_drop bg h, List.drop_drop]
  congr 1
  unfold mx
  split
  · rename_i hlt
    have := count_mono (bg := bg) (a := b1) (b := b2) (by omega)
    omega
  · rename_i hlt
    have := count_mono (bg := bg) (a := b2) (b := b1) (by omega)
    omega

theorem mx_twice (b1 b2 : Int) : mx (mx 0 b1) b2 = mx 0 (mx b1 b2) := by unfold mx; split <;> split <;> (try split) <;> (try split) <;> omega

/-- Which keys Forget strikes. -/
theorem olds : ∃ pd : Int → Lit → Bool, (∀ bf s a, s.size ≤ maxLen → (Lit.int .i64 a).wf = true → pd bf (keyD s a) = decide (a < bf)) ∧ ∀ b1 b2 kl, (pd b1 kl || pd b2 kl) = pd (mx b1 b2) kl := by
  classical
  refine ⟨fun bf kl => decide (∃ s a, s.size ≤ maxLen ∧ (Lit.int .i64 a).wf = true ∧ kl = keyD s a ∧ a < bf), fun bf s a hs ha => ?_, fun b1 b2 kl => ?_⟩
  · by_cases h : a < bf
    · rw [decide_eq_true h]
      exact decide_eq_true ⟨s, a, hs, ha, rfl, h⟩
    · rw [decide_eq_false h]
      refine decide_eq_false ?_
      rintro ⟨s', a', hs', ha', e, hlt⟩
      have := (keyD_inj hs hs' ha ha' e).2
      omega
  · rw [Bool.eq_iff_iff, Bool.or_eq_true, decide_eq_true_iff, decide_eq_true_iff, decide_eq_true_iff]
    constructor
    · rintro (⟨s, a, h1, h2, h3, h4⟩ | ⟨s, a, h1, h2, h3, h4⟩)
      · exact ⟨s, a, h1, h2, h3, by unfold mx; split <;> omega⟩
      · exact ⟨s, a, h1, h2, h3, by unfold mx; split <;> omega⟩
    · rintro ⟨s, a, h1, h2, h3, h4⟩
      unfold mx at h4
      split at h4
      · exact .inr ⟨s, a, h1, h2, h3, h4⟩
      · exact .inl ⟨s, a, h1, h2, h3, h4⟩

theorem del_twice {pd : Int → Lit → Bool} (hpd : ∀ b1 b2 kl, (pd b1 kl || pd b2 kl) = pd (mx b1 b2) kl) (b1 b2 : Int) (E : DataW Value) :
    Lib.deleteFuncD (fun k _ => pd b2 k) (Lib.deleteFuncD (fun k _ => pd b1 k) E) = Lib.deleteFuncD (fun k _ => pd (mx b1 b2) k) E := by
  cases E with
  | map es =>
    unfold Lib.deleteFuncD
    simp only [List.filter_filter]
    congr 1
    refine List.filter_congr fun p _ => ?_
    rw [← hpd b1 b2]
    cases pd b1 p.1 <;> cases pd b2 p.1 <;> rfl
  | _ => rfl

section
variable {B C : Nat} {L : Lay} {bg : List Int} {E : DataW Value} {fg : Int} {N : Nat} {w : World}
theorem Core.forgotten (h : Core B C L bg E fg N w) : Calls Try.prog 15 #[.pointer (some ⟨L.sb, 0, none⟩)] w fun e w' => e = .returned (.int .i64 fg) ∧ w' = w := by
  obtain ⟨bv, _, _, _, _, _, c10, _⟩ := h.cells
  clear h
  go_enter Try.func15, Try.ntmps15
  go_wp2
  go_ret
  exact ⟨rfl, rfl⟩

theorem Core.begun (h : Core B C L bg E fg N w) : Calls Try.prog 16 #[.pointer (some ⟨L.sb, 0, none⟩)] w fun e w' => (∃ a c, e = .returned (.slice a bg.length c) ∧ Ints w a bg) ∧ w' = w := by
  obtain ⟨bv, _, _, c7, _, _, _, hown, _⟩ := h.cells
  have hv : ∃ a c, bv = .slice a bg.length c := by
    rcases hown.2 with ⟨rfl, e⟩ | ⟨g, cap, cur, rfl, _⟩
    · exact ⟨none, 0, by rw [e]⟩
    · exact ⟨_, _, rfl⟩
  obtain ⟨a, c, rfl⟩ := hv
  have S2 := hidden (ints_of_owns hown)
  clear hown h
  go_enter Try.func16, Try.ntmps16
  go_wp2
  go_ret
  exact ⟨⟨a, c, rfl, S2.out⟩, rfl⟩

theorem Core.endedMap (h : Core B C L bg E fg N w) : Calls Try.prog 17 #[.pointer (some ⟨L.sb, 0, none⟩)] w fun e w' => e = .returned (.map (some L.mE)) ∧ w' = w := by
  obtain ⟨bv, _, c6, _⟩ := h.cells
  clear h
  go_enter Try.func17, Try.ntmps17
  go_wp2
  go_ret
  exact ⟨rfl, rfl⟩
end

end Go.Proofs.Qxb6609132a
