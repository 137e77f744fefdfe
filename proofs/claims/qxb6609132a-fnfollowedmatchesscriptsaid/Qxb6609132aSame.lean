import Derived.Test.Qxb6609132aLast
import Derived.Test.Qxb6609132aFollow
import Derived.BigQuiet
import Derived.Deep.QuietTactic
namespace Go.Proofs.Qxb6609132a
open Go.RowKit Go.Maps

/-- What zzFollowedWant answers. -/
def WantIs (w : World) (o : Option Rec) (lim : Int) (e : Ending) : Prop :=
  ∃ a n c, e = .returned (.tuple #[.slice a n c, .bool (folB o lim)]) ∧ (folB o lim = true → ∃ r, o = some r ∧ n = r.on.length ∧ Strs w a r.on)

theorem wantIs_no {w : World} {o o' : Option Rec} {lim : Int} (h1 : o = o') (h2 : folB o' lim = false) {a : Option Addr} {n c : Nat} : WantIs w o lim (.returned (.tuple #[.slice a n c, .bool false])) := by
  subst h1
  exact ⟨a, n, c, by rw [h2], fun h => by rw [h2] at h; cases h⟩
theorem wantIs_yes {w : World} {o : Option Rec} {r : Rec} {lim : Int} (h1 : o = some r) (h2 : folB (some r) lim = true) {a : Option Addr} {c : Nat} (hs : Strs w a r.on) : WantIs w o lim (.returned (.tuple #[.slice a r.on.length c, .bool true])) := by
  subst h1
  exact ⟨a, r.on.length, c, by rw [h2], fun _ => ⟨r, rfl, rfl, hs⟩⟩

set_option maxHeartbeats 1000000 in
theorem want_any (a : Option Addr) (st : List StepD) (cap : Nat) (ini q : ByteArray) (d h : Int) (w : World) (hm : st.length ≤ 9223372036854775807) (hs : StepsAt w a st) :
    Calls Try.prog 30 #[.slice a st.length cap, .string ini, .int .i64 d, .string q, .int .i64 h] w fun e w' => WantIs w (runF (st.map StepD.c) q) (limOf q ini d h) e ∧ w' = w := by
  go_enter Try.func30, Try.ntmps30
  go_wp2_with fail
  refine (lastWait_any a st cap q _ hm hs).mono ?_
  rintro e w' ⟨⟨r, rfl, hr⟩, rfl⟩
  rcases hr with ⟨rfl, hF⟩ | ⟨j, s, rfl, hj, hF⟩
  · have HF := hidden hF
    clear hF hs
    go_wp2_with fail
    go_ret2
    exact ⟨wantIs_no HF.out rfl, rfl⟩
  · have hlt : j < st.length := (List.getElem?_eq_some_iff.1 hj).1
    rcases hs with rfl | ⟨b, off, rfl, hc⟩
    · simp at hlt
    obtain ⟨_, _, c2, c3, c4, hss, _, _⟩ := hc j s hj
    have HF := hidden hF
    have HS := hidden hss
    clear hF hc hj hss
    cases hm0 : (s.model != 0)
    · have hmz : (s.model == 0) = true := by simpa using hm0
      have HM := hidden hmz
      clear hmz
      by_cases hlim : limOf q ini d h < s.at'
      · have HFB : Hid (folB (some ⟨s.model, s.on, s.at'⟩) (limOf q ini d h) = false) := by
          show _ = _
          unfold folB
          simp only [HM.out, Bool.true_and, decide_eq_false_iff_not]
          omega
        unfold limOf at hlim
        cases hqi : (q.toList == ini.toList)
        all_goals (
          rw [hqi] at hlim
          simp only [if_true, Bool.false_eq_true, if_false] at hlim
          go_wp2_with fail
          go_ret2
          exact ⟨wantIs_no HF.out HFB.out, rfl⟩)
      · have HFB : Hid (folB (some ⟨s.model, s.on, s.at'⟩) (limOf q ini d h) = true) := by
          show _ = _
          unfold folB
          simp only [HM.out, Bool.true_and, decide_eq_true_eq]
          omega
        unfold limOf at hlim
        cases hqi : (q.toList == ini.toList)
        all_goals (
          rw [hqi] at hlim
          simp only [if_true, Bool.false_eq_true, if_false] at hlim
          go_wp2_with fail
          go_ret2
          exact ⟨wantIs_yes (r := ⟨s.model, s.on, s.at'⟩) HF.out HFB.out HS.out, rfl⟩)
    · have HFB : Hid (folB (some ⟨s.model, s.on, s.at'⟩) (limOf q ini d h) = false) := by
        show _ = _
        unfold folB
        have : (s.model == 0) = false := by simpa using hm0
        simp [this]
      go_wp2_with fail
      go_ret2
      exact ⟨wantIs_no HF.out HFB.out, rfl⟩

set_option maxHeartbeats 400000 in
theorem same_nil (a : Option Addr) (n c : Nat) (w : World) : Calls Try.prog 31 #[.slice none 0 0, .slice a n c, .bool false] w fun e w' => e = .returned (.bool true) ∧ w' = w := by
  have hn := fun (w : World) => Lib.run_eql_slice_nil (P := Try.prog) w 22 9 none 0 0 0 0 Try.underlying22
  go_enter Try.func31, Try.ntmps31
  go_wp2
  go_ret
  exact ⟨rfl, rfl⟩

set_option maxRecDepth 20000 in
set_option maxHeartbeats 1000000 in
theorem same_some (x : Addr) (c : Nat) (a : Option Addr) (c' : Nat) (ss : List ByteArray) (w : World) (hm : ss.length ≤ 9223372036854775807) (h1 : Strs w (some x) ss) (h2 : Strs w a ss) :
    Calls Try.prog 31 #[.slice (some x) ss.length c, .slice a ss.length c', .bool true] w fun e w' => e = .returned (.bool true) ∧ w.grownBy w' none := by
  have hn := fun (w : World) => Lib.run_eql_slice_nil (P := Try.prog) w 22 9 (some x) ss.length c 0 0 Try.underlying22
  have hnn : ((ss.length : Int) != (ss.length : Int)) = false := by simp
  go_enter Try.func31, Try.ntmps31
  go_wp2_with fail
  go_loopw [7] (fun i wr => ∃ (k : Nat), k ≤ ss.length ∧ i = .int .i64 k ∧ w.grownBy wr none) (fun i _ => ss.length - (intOf i).toNat)
  case atStart => exact ⟨0, Nat.zero_le _, rfl, World.grownBy.refl _ _⟩
  case round =>
    obtain ⟨k, hk, rfl, hg⟩ := hrel
    by_cases hlt : k < ss.length
    · rcases h1 with h0 | ⟨b1, o1, e1, hc1⟩
      · rw [h0] at hlt; simp at hlt
      rcases h2 with h0 | ⟨b2, o2, e2, hc2⟩
      · rw [h0] at hlt; simp at hlt
      cases e1
      cases e2
      have d1 := hg.cell (hc1 k hlt) (by simp)
      have d2 := hg.cell (hc2 k hlt) (by simp)
      have hki : (0 : Int) ≤ (k : Int) := by omega
      have hlti : (k : Int) < (ss.length : Int) := by omega
      clear hc1 hc2
      generalize ss.getD k ByteArray.empty = y at *
      have hyy : (y.toList == y.toList) = true := str_same y
      go_wp2_with fail
      go_quiet (fail)
      go_wp2_with fail
      go_roundw
      case rel => exact ⟨k + 1, by omega, by go_num, grown_trans hg ⟨rfl, rfl, rfl, Nat.le_refl _, fun _ _ _ => rfl⟩⟩
      case measure => simp [intOf]; omega
    · clear h1 h2
      go_wp2_with fail
      go_ret
      exact ⟨rfl, hg⟩

end Go.Proofs.Qxb6609132a
