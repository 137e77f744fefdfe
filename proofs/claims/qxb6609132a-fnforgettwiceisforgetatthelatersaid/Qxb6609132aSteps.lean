import Derived.Test.Qxb6609132aHas
namespace Go.Proofs.Qxb6609132a
open Go.RowKit

/-- A step of a script, as it was read; 'oa', 'oc': where its list lies. -/
structure StepD where
  p : ByteArray
  done : Bool
  model : Int
  on : List ByteArray
  at' : Int
  oa : Option Addr
  oc : Nat

structure StepAt (w : World) (b o : Nat) (s : StepD) : Prop where
  c0 : w.cell? ⟨b, o, none⟩ = some (.string s.p)
  c1 : w.cell? ⟨b, o + 1, none⟩ = some (.bool s.done)
  c2 : w.cell? ⟨b, o + 2, none⟩ = some (.int .i64 s.model)
  c3 : w.cell? ⟨b, o + 3, none⟩ = some (.slice s.oa s.on.length s.oc)
  c4 : w.cell? ⟨b, o + 4, none⟩ = some (.int .i64 s.at')
  hs : Strs w s.oa s.on
  hn : s.oa = none → s.on = []
  hm : s.on.length ≤ 9223372036854775807

def StepsAt (w : World) (a : Option Addr) (st : List StepD) : Prop :=
  st = [] ∨ ∃ b off, a = some ⟨b, off, none⟩ ∧ ∀ i s, st[i]? = some s → StepAt w b (off + i * 5) s

set_option maxHeartbeats 400000 in
theorem text_num (s : ByteArray) (u : Int) (w : World) (hu : 0 ≤ u) :
    Calls Try.prog 11 #[.string s, .int .i64 u] w fun e w' => (∃ n : Int, e = .returned (.int .i64 n) ∧ 0 ≤ n ∧ (1048576 < n ∨ u ≤ n)) ∧ w' = w := by
  by_cases h1 : 1048576 < u
  · go_enter Try.func11, Try.ntmps11
    go_wp2
    go_ret
    exact ⟨⟨_, rfl, by omega, by omega⟩, rfl⟩
  · by_cases h2 : (1048576 : Int) < s.size
    · go_enter Try.func11, Try.ntmps11
      go_wp2
      go_ret
      exact ⟨⟨_, rfl, by omega, by omega⟩, rfl⟩
    · go_enter Try.func11, Try.ntmps11
      go_wp2
      go_ret
      exact ⟨⟨_, rfl, by omega, by omega⟩, rfl⟩

set_option maxHeartbeats 400000 in
theorem strBytes_num (a : Option Addr) (ss : List ByteArray) (cap : Nat) (u : Int) (w : World) (hm : ss.length ≤ 9223372036854775807) (hs : Strs w a ss) (hu : 0 ≤ u) :
    Calls Try.prog 10 #[.slice a ss.length cap, .int .i64 u] w fun e w' => (∃ n : Int, e = .returned (.int .i64 n) ∧ 0 ≤ n ∧ (1048576 < n ∨ u + 16 * ss.length ≤ n)) ∧ w' = w := by
  go_enter Try.func10, Try.ntmps10
  go_wp2_with fail
  go_loop [1, 5] (fun u' i => ∃ (k : Nat) (m : Int), k ≤ ss.length ∧ i = .int .i64 k ∧ u' = .int .i64 m ∧ 0 ≤ m ∧ (1048576 < m ∨ u + 16 * k ≤ m)) (fun _ i => ss.length - (intOf i).toNat)
  case atStart => exact ⟨0, u, Nat.zero_le _, rfl, rfl, hu, by omega⟩
  case round =>
    obtain ⟨k, m, hk, rfl, rfl, hm0, hm1⟩ := hrel
    by_cases hlt : k < ss.length
    · rcases hs with rfl | ⟨b, off, rfl, hc⟩
      · simp at hlt
      have hcell := hc k hlt
      clear hc
      generalize ss.getD k ByteArray.empty = y at hcell
      by_cases hu : 1048576 < m
      · go_wp2_with fail
        go_ret
        exact ⟨⟨_, rfl, by omega, by omega⟩, rfl⟩
      · go_wp2_with (first | (go_at_call 11; refine (text_num _ _ _ (by omega)).mono ?_; rintro e w' ⟨⟨n, rfl, hn0, hn1⟩, rfl⟩))
        go_round
        case rel => exact ⟨k + 1, n, by omega, by go_num, rfl, hn0, by omega⟩
        case measure => simp [intOf]; omega
    · clear hs
      go_wp2_with fail
      go_ret
      exact ⟨⟨_, rfl, by omega, by omega⟩, rfl⟩

set_option maxHeartbeats 400000 in
theorem stepBytes_num (a : Option Addr) (st : List StepD) (cap : Nat) (u : Int) (w : World) (hm : st.length ≤ 9223372036854775807) (hs : StepsAt w a st) (hu : 0 ≤ u) :
    Calls Try.prog 23 #[.slice a st.length cap, .int .i64 u] w fun e w' => (∃ n : Int, e = .returned (.int .i64 n) ∧ 0 ≤ n ∧ (1048576 < n ∨ ∀ (i : Nat) (s : StepD), st[i]? = some s → 16 * (s.on.length : Int) ≤ n)) ∧ w' = w := by
  go_enter Try.func23, Try.ntmps23
  go_wp2_with fail
  go_loop [1, 5] (fun u' i => ∃ (k : Nat) (m : Int), k ≤ st.length ∧ i = .int .i64 k ∧ u' = .int .i64 m ∧ 0 ≤ m ∧ Hid (1048576 < m ∨ ∀ (i : Nat) (s : StepD), i < k → st[i]? = some s → 16 * (s.on.length : Int) ≤ m)) (fun _ i => st.length - (intOf i).toNat)
  case atStart => exact ⟨0, u, Nat.zero_le _, rfl, rfl, hu, .inr (fun i s h => by omega)⟩
  case round =>
    obtain ⟨k, m, hk, rfl, rfl, hm0, hm1⟩ := hrel
    by_cases hlt : k < st.length
    · rcases hs with rfl | ⟨b, off, rfl, hc⟩
      · simp at hlt
      obtain ⟨s, hsk⟩ : ∃ s, st[k]? = some s := ⟨_, List.getElem?_eq_getElem hlt⟩
      have hA := hc k s hsk
      obtain ⟨c0, _, _, c3, _, hss, _, hmm⟩ := hA
      have HK : Hid (st[k]? = some s) := hsk
      clear hc hsk
      by_cases hu : 1048576 < m
      · go_wp2_with fail
        go_ret
        exact ⟨⟨_, rfl, by omega, .inl hu⟩, rfl⟩
      · go_wp2_with fail
        refine (text_num _ _ _ (by omega)).mono ?_
        rintro e w' ⟨⟨n1, rfl, hn0, hn1⟩, rfl⟩
        go_wp2_with fail
        refine (strBytes_num _ _ _ _ _ hmm hss hn0).mono ?_
        rintro e w' ⟨⟨n2, rfl, hn2, hn3⟩, rfl⟩
        have HN : Hid (1048576 < n2 ∨ ∀ (i : Nat) (s : StepD), i < k + 1 → st[i]? = some s → 16 * (s.on.length : Int) ≤ n2) := by
          by_cases hz : 1048576 < n2
          · exact .inl hz
          · right
            intro i s' hi hs'
            by_cases e : i = k
            · subst e
              have hk := HK.out
              rw [hk] at hs'
              injection hs' with hs'
              subst hs'
              omega
            · rcases hm1.out with h | h
              · omega
              · have := h i s' (by omega) hs'
                omega
        go_wp2_with fail
        go_round
        case rel => exact ⟨k + 1, n2, by omega, by go_num, rfl, hn2, HN⟩
        case measure => simp [intOf]; omega
    · clear hs
      go_wp2_with fail
      go_ret
      refine ⟨⟨_, rfl, by omega, ?_⟩, rfl⟩
      rcases hm1.out with h | h
      · exact .inl h
      · refine .inr fun i s hi => h i s ?_ hi
        have := (List.getElem?_eq_some_iff.1 hi).1
        omega

end Go.Proofs.Qxb6609132a
