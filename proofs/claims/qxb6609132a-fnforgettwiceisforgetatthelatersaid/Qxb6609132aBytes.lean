import Derived.Test.Qxb6609132aRows
import Derived.WalkKit
import Derived.WalkSpells
import Derived.WalkLawsBesides
namespace Go.Proofs.Qxb6609132a
open Go.RowKit

/-- A slice's elements are the strings ss. -/
def Strs (w : World) (a : Option Addr) (ss : List ByteArray) : Prop :=
  ss = [] ∨ ∃ b off, a = some ⟨b, off, none⟩ ∧ ∀ i, i < ss.length → w.cell? ⟨b, off + i, none⟩ = some (.string (ss.getD i ByteArray.empty))

/-- It returned some bool. -/
def IsBool (e : Ending) : Prop := ∃ b, e = .returned (.bool b)

set_option maxHeartbeats 400000 in
theorem text_any (s : ByteArray) (u : Int) (w : World) :
    Calls Try.prog 11 #[.string s, .int .i64 u] w fun e w' => (∃ n, e = .returned (.int .i64 n)) ∧ w' = w := by
  by_cases h1 : 1048576 < u
  · go_enter Try.func11, Try.ntmps11
    go_wp2
    go_ret
    exact ⟨⟨_, rfl⟩, rfl⟩
  · by_cases h2 : (1048576 : Int) < s.size
    · go_enter Try.func11, Try.ntmps11
      go_wp2
      go_ret
      exact ⟨⟨_, rfl⟩, rfl⟩
    · go_enter Try.func11, Try.ntmps11
      go_wp2
      go_ret
      exact ⟨⟨_, rfl⟩, rfl⟩

set_option maxHeartbeats 400000 in
theorem strBytes_any (a : Option Addr) (ss : List ByteArray) (cap : Nat) (u : Int) (w : World) (hm : ss.length ≤ 9223372036854775807) (hs : Strs w a ss) :
    Calls Try.prog 10 #[.slice a ss.length cap, .int .i64 u] w fun e w' => (∃ n, e = .returned (.int .i64 n)) ∧ w' = w := by
  go_enter Try.func10, Try.ntmps10
  go_wp2_with fail
  go_loop [1, 5] (fun u i => ∃ (k : Nat) (m : Int), k ≤ ss.length ∧ i = .int .i64 k ∧ u = .int .i64 m) (fun _ i => ss.length - (intOf i).toNat)
  case atStart => exact ⟨0, u, Nat.zero_le _, rfl, rfl⟩
  case round =>
    obtain ⟨k, m, hk, rfl, rfl⟩ := hrel
    by_cases hlt : k < ss.length
    · rcases hs with rfl | ⟨b, off, rfl, hc⟩
      · simp at hlt
      have hcell := hc k hlt
      clear hc
      by_cases hu : 1048576 < m
      · go_wp2_with fail
        go_ret
        exact ⟨⟨_, rfl⟩, rfl⟩
      · go_wp2_with (first | (go_at_call 11; refine (text_any _ _ _).mono ?_; rintro e w' ⟨⟨n, rfl⟩, rfl⟩))
        go_round
        case rel => exact ⟨k + 1, n, by omega, by go_num, rfl⟩
        case measure => simp [intOf]; omega
    · clear hs
      go_wp2_with fail
      go_ret
      exact ⟨⟨_, rfl⟩, rfl⟩

end Go.Proofs.Qxb6609132a
