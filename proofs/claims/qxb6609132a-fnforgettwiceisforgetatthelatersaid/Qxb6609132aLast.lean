import Derived.Test.Qxb6609132aBuild
namespace Go.Proofs.Qxb6609132a
open Go.RowKit Go.Maps

/-- What zzLastWait answers. -/
def LastIs (st : List StepD) (q : ByteArray) (r : Int) : Prop :=
  (r = -1 ∧ runF (st.map StepD.c) q = none) ∨ ∃ (j : Nat) (s : StepD), r = (j : Int) ∧ st[j]? = some s ∧ runF (st.map StepD.c) q = some ⟨s.model, s.on, s.at'⟩

theorem take_c {st : List StepD} {k : Nat} {s : StepD} (h : st[k]? = some s) : (st.take (k + 1)).map StepD.c = (st.take k).map StepD.c ++ [s.c] := by
  rw [List.take_add_one, h, List.map_append]
  rfl

theorem last_other {st : List StepD} {k : Nat} {s : StepD} {q : ByteArray} (h : st[k]? = some s) (hne : (s.p.toList == q.toList) = false) : runF ((st.take (k + 1)).map StepD.c) q = runF ((st.take k).map StepD.c) q := by
  rw [take_c h, runF_snoc]
  have e : q ≠ s.p := (str_no hne).symm
  unfold stepF
  split
  · exact upd_other _ _ e
  · cases s.c.on with
    | nil => rfl
    | cons x r => exact upd_other _ _ e
theorem last_done {st : List StepD} {k : Nat} {s : StepD} {q : ByteArray} (h : st[k]? = some s) (he : (s.p.toList == q.toList) = true) (hd : s.done = true) : runF ((st.take (k + 1)).map StepD.c) q = none := by
  rw [take_c h, runF_snoc, ← str_yes he]
  unfold stepF
  rw [if_pos (show s.c.done = true from hd)]
  exact upd_same _ _ _
theorem last_empty {st : List StepD} {k : Nat} {s : StepD} {q : ByteArray} (h : st[k]? = some s) (hd : s.done = false) (ho : s.on.length = 0) : runF ((st.take (k + 1)).map StepD.c) q = runF ((st.take k).map StepD.c) q := by
  rw [take_c h, runF_snoc]
  have e : s.c.on = [] := List.length_eq_zero_iff.1 ho
  unfold stepF
  rw [if_neg (by show ¬ s.done = true; rw [hd]; simp), e]
theorem last_hit {st : List StepD} {k : Nat} {s : StepD} {q : ByteArray} (h : st[k]? = some s) (he : (s.p.toList == q.toList) = true) (hd : s.done = false) (ho : 0 < s.on.length) : runF ((st.take (k + 1)).map StepD.c) q = some ⟨s.model, s.on, s.at'⟩ := by
  rw [take_c h, runF_snoc, ← str_yes he]
  unfold stepF
  rw [if_neg (by show ¬ s.done = true; rw [hd]; simp)]
  have : s.c.on = s.on := rfl
  rw [this]
  cases hon : s.on with
  | nil => rw [hon] at ho; simp at ho
  | cons x r => exact upd_same _ _ _

set_option maxHeartbeats 1000000 in
theorem lastWait_any (a : Option Addr) (st : List StepD) (cap : Nat) (q : ByteArray) (w : World) (hm : st.length ≤ 9223372036854775807) (hs : StepsAt w a st) :
    Calls Try.prog 26 #[.slice a st.length cap, .string q] w fun e w' => (∃ r : Int, e = .returned (.int .i64 r) ∧ LastIs st q r) ∧ w' = w := by
  go_enter Try.func26, Try.ntmps26
  go_wp2_with fail
  go_loop [5] (fun i => ∃ (k : Nat), k ≤ st.length ∧ i = .int .i64 ((k : Int) - 1) ∧ Hid (runF (st.map StepD.c) q = runF ((st.take k).map StepD.c) q)) (fun i => ((intOf i) + 1).toNat)
  case atStart => exact ⟨st.length, Nat.le_refl _, rfl, by show _ = _; rw [List.take_of_length_le (Nat.le_refl _)]⟩
  case round =>
    obtain ⟨k, hk, rfl, HR⟩ := hrel
    cases k with
    | zero =>
      clear hs
      go_wp2_with fail
      go_ret
      exact ⟨⟨-1, rfl, .inl ⟨rfl, HR.out⟩⟩, rfl⟩
    | succ k =>
      rw [show ((k + 1 : Nat) : Int) - 1 = (k : Int) by omega]
      rcases hs with rfl | ⟨b, off, rfl, hc⟩
      · simp at hk
      obtain ⟨s, hsk⟩ : ∃ s, st[k]? = some s := ⟨_, List.getElem?_eq_getElem (by omega)⟩
      obtain ⟨c0, c1, _, c3, _, _, _, hmm⟩ := hc k s hsk
      have hlt : k < st.length := by omega
      have HK := hidden hsk
      clear hc hsk
      cases he : (s.p.toList == q.toList)
      · have HR' := hidden (HR.out.trans (last_other HK.out he))
        go_wp2_with fail
        go_round
        case rel => exact ⟨k, by omega, rfl, HR'⟩
        case measure => simp [intOf]
      · cases hd : s.done
        · rw [hd] at c1
          by_cases ho : s.on.length = 0
          · have HR' := hidden (HR.out.trans (last_empty HK.out hd ho))
            rw [ho] at c3
            go_wp2_with fail
            go_round
            case rel => exact ⟨k, by omega, rfl, HR'⟩
            case measure => simp [intOf]
          · have hop : (0 : Int) < s.on.length := by omega
            have HR' := hidden (HR.out.trans (last_hit HK.out he hd (by omega)))
            clear ho
            go_wp2_with fail
            go_ret
            exact ⟨⟨k, rfl, .inr ⟨k, s, rfl, HK.out, HR'.out⟩⟩, rfl⟩
        · rw [hd] at c1
          have HR' := hidden (HR.out.trans (last_done HK.out he hd))
          go_wp2_with fail
          go_ret
          exact ⟨⟨-1, rfl, .inl ⟨rfl, HR'.out⟩⟩, rfl⟩

end Go.Proofs.Qxb6609132a
