import Derived.Test.Qxb6609132aBytes
namespace Go.Proofs.Qxb6609132a
open Go.RowKit

set_option maxHeartbeats 1000000 in
theorem bytes9 (a : Option Addr) (ss : List ByteArray) (cap : Nat) (a2 : Option Addr) (qs : List ByteArray) (cap2 : Nat) (s : ByteArray) (t d h : Int) (w : World)
    (hm : ss.length ≤ 9223372036854775807) (hs : Strs w a ss) (hm2 : qs.length ≤ 9223372036854775807) (hq : Strs w a2 qs) :
    Calls Try.prog 9 #[.slice a ss.length cap, .int .i64 t, .slice a2 qs.length cap2, .string s, .int .i64 d, .int .i64 h] w
      fun e w' => IsBool e ∧ w' = w := by
  by_cases h1 : (1048576 : Int) < ss.length
  · go_enter Try.func9, Try.ntmps9
    go_wp2_with fail
    go_ret
    exact ⟨⟨_, rfl⟩, rfl⟩
  go_enter Try.func9, Try.ntmps9
  go_wp2_with fail
  go_loop [13, 14] (fun u i => ∃ (k : Nat) (m : Int), k ≤ ss.length ∧ i = .int .i64 k ∧ u = .int .i64 m ∧ 0 ≤ m ∧ m ≤ 1048576) (fun _ i => ss.length - (intOf i).toNat)
  case atStart => exact ⟨0, ss.length, Nat.zero_le _, rfl, rfl, by omega, by omega⟩
  case round =>
    obtain ⟨k, m, hk, rfl, rfl, hm0, hm1⟩ := hrel
    by_cases hlt : k < ss.length
    · rcases hs with rfl | ⟨b, off, rfl, hc⟩
      · simp at hlt
      have hcell := hc k hlt
      clear hc hq
      generalize ss.getD k ByteArray.empty = x at hcell
      by_cases hu : (1048576 : Int) < x.size
      · go_wp2_with fail
        go_ret
        exact ⟨⟨_, rfl⟩, rfl⟩
      · by_cases hv : (1048576 : Int) < m + x.size
        · go_wp2_with fail
          go_ret
          exact ⟨⟨_, rfl⟩, rfl⟩
        · go_wp2_with fail
          go_round
          case rel => exact ⟨k + 1, _, by omega, by go_num, rfl, by omega, by omega⟩
          case measure => simp [intOf]; omega
    · clear hs
      by_cases h2 : (1048576 : Int) < qs.length
      · go_wp2_with fail
        go_ret
        exact ⟨⟨_, rfl⟩, rfl⟩
      by_cases h3 : (1048576 : Int) < m + qs.length
      · go_wp2_with fail
        go_ret
        exact ⟨⟨_, rfl⟩, rfl⟩
      go_wp2_with fail
      go_loop [13, 15] (fun u i => ∃ (k : Nat) (m : Int), k ≤ qs.length ∧ i = .int .i64 k ∧ u = .int .i64 m ∧ 0 ≤ m ∧ m ≤ 1048576) (fun _ i => qs.length - (intOf i).toNat)
      case atStart => exact ⟨0, _, Nat.zero_le _, rfl, rfl, by omega, by omega⟩
      case round =>
        obtain ⟨k2, m2, hk2, rfl, rfl, hm20, hm21⟩ := hrel
        by_cases hlt2 : k2 < qs.length
        · rcases hq with rfl | ⟨b, off, rfl, hc⟩
          · simp at hlt2
          have hcell := hc k2 hlt2
          clear hc
          generalize qs.getD k2 ByteArray.empty = x at hcell
          by_cases hu : (1048576 : Int) < x.size
          · go_wp2_with fail
            go_ret
            exact ⟨⟨_, rfl⟩, rfl⟩
          · by_cases hv : (1048576 : Int) < m2 + x.size
            · go_wp2_with fail
              go_ret
              exact ⟨⟨_, rfl⟩, rfl⟩
            · go_wp2_with fail
              go_round
              case rel => exact ⟨k2 + 1, _, by omega, by go_num, rfl, by omega, by omega⟩
              case measure => simp [intOf]; omega
        · clear hq
          by_cases hu : (1048576 : Int) < s.size
          · go_wp2_with fail
            go_ret
            exact ⟨⟨_, rfl⟩, rfl⟩
          · by_cases hv : (1048576 : Int) < m2 + s.size
            · go_wp2_with fail
              go_ret
              exact ⟨⟨_, rfl⟩, rfl⟩
            · go_wp2_with fail
              go_ret
              exact ⟨⟨_, rfl⟩, rfl⟩

end Go.Proofs.Qxb6609132a
