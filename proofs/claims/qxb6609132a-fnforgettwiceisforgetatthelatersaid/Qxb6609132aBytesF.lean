import Derived.Test.Qxb6609132aDets
namespace Go.Proofs.Qxb6609132a
open Go.RowKit

set_option maxRecDepth 20000 in
set_option maxHeartbeats 2000000 in
theorem bytes33 (a : Option Addr) (ss : List ByteArray) (cap : Nat) (a2 : Option Addr) (st : List StepD) (cap2 : Nat) (a3 : Option Addr) (fs : List DetD) (cap3 : Nat) (d h : Int) (w : World)
    (hm : ss.length ≤ 9223372036854775807) (hs : Strs w a ss) (hm2 : st.length ≤ 9223372036854775807) (hq : StepsAt w a2 st) (hm3 : fs.length ≤ 9223372036854775807) (hf : DetsAt w a3 fs) :
    Calls Try.prog 33 #[.slice a ss.length cap, .slice a2 st.length cap2, .slice a3 fs.length cap3, .int .i64 d, .int .i64 h] w fun e w' => IsBool e ∧ w' = w := by
  by_cases h1 : (1048576 : Int) < ss.length
  · go_enter Try.func33, Try.ntmps33
    go_wp2_with fail
    go_ret
    exact ⟨⟨_, rfl⟩, rfl⟩
  go_enter Try.func33, Try.ntmps33
  go_wp2_with fail
  go_loop [11, 12] (fun u i => ∃ (k : Nat) (m : Int), k ≤ ss.length ∧ i = .int .i64 k ∧ u = .int .i64 m ∧ 0 ≤ m ∧ m ≤ 1048576) (fun _ i => ss.length - (intOf i).toNat)
  case atStart => exact ⟨0, ss.length, Nat.zero_le _, rfl, rfl, by omega, by omega⟩
  case round =>
    obtain ⟨k, m, hk, rfl, rfl, hm0, hm1⟩ := hrel
    by_cases hlt : k < ss.length
    · rcases hs with rfl | ⟨b, off, rfl, hc⟩
      · simp at hlt
      have hcell := hc k hlt
      clear hc hq hf
      generalize ss.getD k ByteArray.empty = x at hcell
      by_cases hu : (1048576 : Int) < x.size
      · go_wp2_with fail
        go_ret
        exact ⟨⟨_, rfl⟩, rfl⟩
      · by_cases hv : (1048576 : Int) < m + x.size
        · go_wp2_with fail
          go_ret
          exact ⟨⟨_, rfl⟩, rfl⟩
        · go_wp2_with fail
          go_round
          case rel => exact ⟨k + 1, _, by omega, by go_num, rfl, by omega, by omega⟩
          case measure => simp [intOf]; omega
    · clear hs
      by_cases h2 : (1048576 : Int) < st.length
      · go_wp2_with fail
        go_ret
        exact ⟨⟨_, rfl⟩, rfl⟩
      by_cases h3 : (1048576 : Int) < m + st.length
      · go_wp2_with fail
        go_ret
        exact ⟨⟨_, rfl⟩, rfl⟩
      go_wp2_with fail
      go_loop [11, 13] (fun u i => ∃ (k : Nat) (m : Int), k ≤ st.length ∧ i = .int .i64 k ∧ u = .int .i64 m ∧ 0 ≤ m ∧ m ≤ 1048576) (fun _ i => st.length - (intOf i).toNat)
      case atStart => exact ⟨0, _, Nat.zero_le _, rfl, rfl, by omega, by omega⟩
      case round =>
        obtain ⟨k2, m2, hk2, rfl, rfl, hm20, hm21⟩ := hrel
        by_cases hlt2 : k2 < st.length
        · rcases hq with rfl | ⟨b, off, rfl, hc⟩
          · simp at hlt2
          obtain ⟨s, hsk⟩ : ∃ s, st[k2]? = some s := ⟨_, List.getElem?_eq_getElem hlt2⟩
          obtain ⟨c0, _, _, c3, _, hss, _, hmm⟩ := hc k2 s hsk
          clear hc hsk hf
          by_cases hu : (1048576 : Int) < s.p.size
          · go_wp2_with fail
            go_ret
            exact ⟨⟨_, rfl⟩, rfl⟩
          by_cases hv : (1048576 : Int) < m2 + s.p.size
          · go_wp2_with fail
            go_ret
            exact ⟨⟨_, rfl⟩, rfl⟩
          by_cases hu2 : (1048576 : Int) < s.on.length
          · go_wp2_with fail
            go_ret
            exact ⟨⟨_, rfl⟩, rfl⟩
          by_cases hv2 : (1048576 : Int) < m2 + s.p.size + s.on.length
          · go_wp2_with fail
            go_ret
            exact ⟨⟨_, rfl⟩, rfl⟩
          go_wp2_with fail
          go_loop [11, 14] (fun u i => ∃ (k : Nat) (m : Int), k ≤ s.on.length ∧ i = .int .i64 k ∧ u = .int .i64 m ∧ 0 ≤ m ∧ m ≤ 1048576) (fun _ i => s.on.length - (intOf i).toNat)
          case atStart => exact ⟨0, _, Nat.zero_le _, rfl, rfl, by omega, by omega⟩
          case round =>
            obtain ⟨k3, m3, hk3, rfl, rfl, hm30, hm31⟩ := hrel
            by_cases hlt3 : k3 < s.on.length
            · obtain ⟨p, done, model, on, at', oa, oc⟩ := s
              dsimp only at *
              rcases hss with rfl | ⟨b3, off3, rfl, hc⟩
              · simp at hlt3
              have hcell := hc k3 hlt3
              clear hc
              generalize on.getD k3 ByteArray.empty = x at hcell
              by_cases hu : (1048576 : Int) < x.size
              · go_wp2_with fail
                go_ret
                exact ⟨⟨_, rfl⟩, rfl⟩
              · by_cases hv : (1048576 : Int) < m3 + x.size
                · go_wp2_with fail
                  go_ret
                  exact ⟨⟨_, rfl⟩, rfl⟩
                · go_wp2_with fail
                  go_round
                  case rel => exact ⟨k3 + 1, _, by omega, by go_num, rfl, by omega, by omega⟩
                  case measure => simp [intOf]; omega
            · clear hss
              go_wp2_with fail
              go_round
              case rel => exact ⟨k2 + 1, _, by omega, by go_num, rfl, by omega, by omega⟩
              case measure => simp [intOf]; omega
        · clear hq
          by_cases h4 : (1048576 : Int) < fs.length
          · go_wp2_with fail
            go_ret
            exact ⟨⟨_, rfl⟩, rfl⟩
          by_cases h5 : (1048576 : Int) < m2 + fs.length
          · go_wp2_with fail
            go_ret
            exact ⟨⟨_, rfl⟩, rfl⟩
          go_wp2_with fail
          go_loop [11, 15] (fun u i => ∃ (k : Nat) (m : Int), k ≤ fs.length ∧ i = .int .i64 k ∧ u = .int .i64 m ∧ 0 ≤ m ∧ m ≤ 1048576) (fun _ i => fs.length - (intOf i).toNat)
          case atStart => exact ⟨0, _, Nat.zero_le _, rfl, rfl, by omega, by omega⟩
          case round =>
            obtain ⟨k4, m4, hk4, rfl, rfl, hm40, hm41⟩ := hrel
            by_cases hlt4 : k4 < fs.length
            · rcases hf with rfl | ⟨b, off, rfl, hc⟩
              · simp at hlt4
              obtain ⟨s, hsk⟩ : ∃ s, fs[k4]? = some s := ⟨_, List.getElem?_eq_getElem hlt4⟩
              obtain ⟨c0, _⟩ := hc k4 s hsk
              clear hc hsk
              by_cases hu : (1048576 : Int) < s.ini.size
              · go_wp2_with fail
                go_ret
                exact ⟨⟨_, rfl⟩, rfl⟩
              by_cases hv : (1048576 : Int) < m4 + s.ini.size
              · go_wp2_with fail
                go_ret
                exact ⟨⟨_, rfl⟩, rfl⟩
              go_wp2_with fail
              go_round
              case rel => exact ⟨k4 + 1, _, by omega, by go_num, rfl, by omega, by omega⟩
              case measure => simp [intOf]; omega
            · clear hf
              go_wp2_with fail
              go_ret
              exact ⟨⟨_, rfl⟩, rfl⟩

end Go.Proofs.Qxb6609132a
