import Derived.Test.Qxb6609132aSteps
namespace Go.Proofs.Qxb6609132a
open Go.RowKit

/-- A finished detection as the law is handed it. -/
structure DetD where
  ini : ByteArray
  at' : Int

/-- A slice's elements are the detections fs. -/
def DetsAt (w : World) (a : Option Addr) (fs : List DetD) : Prop :=
  fs = [] ∨ ∃ b off, a = some ⟨b, off, none⟩ ∧ ∀ (i : Nat) (s : DetD), fs[i]? = some s →
    w.cell? ⟨b, off + i * 2, none⟩ = some (.string s.ini) ∧ w.cell? ⟨b, off + i * 2 + 1, none⟩ = some (.int .i64 s.at') ∧ s.ini.size ≤ maxLen ∧ (Lit.int .i64 s.at').wf = true

theorem DetsAt.kept {w w' : World} {a : Option Addr} {fs : List DetD} (h : DetsAt w a fs) (hg : w.grownBy w' none) : DetsAt w' a fs := by
  rcases h with h | ⟨b, off, h1, h2⟩
  · exact .inl h
  · refine .inr ⟨b, off, h1, fun i s hi => ?_⟩
    obtain ⟨k0, k1, k2, k3⟩ := h2 i s hi
    exact ⟨hg.cell k0 (by simp), hg.cell k1 (by simp), k2, k3⟩

theorem DetsAt.below {w w' : World} {a : Option Addr} {fs : List DetD} (h : DetsAt w a fs) (hb : Below w.heap.size w w') : DetsAt w' a fs :=
  h.kept ⟨hb.os, hb.tape, hb.output, hb.size, fun i hi _ => hb.block i hi⟩

set_option maxHeartbeats 400000 in
theorem detBytes_num (a : Option Addr) (fs : List DetD) (cap : Nat) (u : Int) (w : World) (hm : fs.length ≤ 9223372036854775807) (hs : DetsAt w a fs) (hu : 0 ≤ u) :
    Calls Try.prog 34 #[.slice a fs.length cap, .int .i64 u] w fun e w' => (∃ n : Int, e = .returned (.int .i64 n) ∧ 0 ≤ n ∧ (1048576 < n ∨ u ≤ n)) ∧ w' = w := by
  go_enter Try.func34, Try.ntmps34
  go_wp2_with fail
  go_loop [1, 5] (fun u' i => ∃ (k : Nat) (m : Int), k ≤ fs.length ∧ i = .int .i64 k ∧ u' = .int .i64 m ∧ 0 ≤ m ∧ (1048576 < m ∨ u ≤ m)) (fun _ i => fs.length - (intOf i).toNat)
  case atStart => exact ⟨0, u, Nat.zero_le _, rfl, rfl, hu, by omega⟩
  case round =>
    obtain ⟨k, m, hk, rfl, rfl, hm0, hm1⟩ := hrel
    by_cases hlt : k < fs.length
    · rcases hs with rfl | ⟨b, off, rfl, hc⟩
      · simp at hlt
      obtain ⟨s, hsk⟩ : ∃ s, fs[k]? = some s := ⟨_, List.getElem?_eq_getElem hlt⟩
      obtain ⟨hcell, _⟩ := hc k s hsk
      clear hc hsk
      by_cases hu : 1048576 < m
      · go_wp2_with fail
        go_ret
        exact ⟨⟨_, rfl, by omega, by omega⟩, rfl⟩
      · go_wp2_with (first | (go_at_call 11; refine (text_num _ _ _ (by omega)).mono ?_; rintro e w' ⟨⟨n, rfl, hn0, hn1⟩, rfl⟩))
        go_round
        case rel => exact ⟨k + 1, n, by omega, by go_num, rfl, hn0, by omega⟩
        case measure => simp [intOf]; omega
    · clear hs
      go_wp2_with fail
      go_ret
      exact ⟨⟨_, rfl, by omega, by omega⟩, rfl⟩

end Go.Proofs.Qxb6609132a
