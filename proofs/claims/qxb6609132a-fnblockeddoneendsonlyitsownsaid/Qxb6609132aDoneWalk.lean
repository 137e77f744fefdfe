import Derived.Test.Qxb6609132aBlockedWalk
import Derived.Test.Qxb6609132aBytesC
namespace Go.Proofs.Qxb6609132a
open Go.RowKit Go.Maps

set_option maxRecDepth 20000 in
set_option maxHeartbeats 4000000 in
theorem walk5 (a0 : Option Addr) (ls : List ByteArray) (c0 : Nat) (a1 : Option Addr) (st : List StepD) (c1 : Nat) (q r : ByteArray) (w : World)
    (hm0 : ls.length ≤ 9223372036854775807) (hn0 : a0 = none → ls = []) (hs0 : Strs w a0 ls) (hm1 : st.length ≤ 9223372036854775807) (hn1 : a1 = none → st = []) (hs1 : StepsAt w a1 st)
    (hpp : ∀ (i : Nat) (s : StepD), st[i]? = some s → s.p.size ≤ maxLen) (hq : q.size ≤ maxLen) (hrs : r.size ≤ maxLen) :
    Calls Try.prog 5 #[.slice a0 ls.length c0, .slice a1 st.length c1, .string q, .string r] w fun e w' => e = .returned (.bool true) ∧ Below w.heap.size w w' := by
  go_enter Try.func5, Try.ntmps5
  go_wp2_with fail
  refine (bytes27 a0 ls c0 a1 st c1 q r _ hm0 hs0 hm1 hs1).mono ?_
  rintro e w' ⟨⟨b, rfl⟩, rfl⟩
  cases b
  · go_wp2_with fail
    go_ret
    exact ⟨rfl, Below.refl _ _⟩
  by_cases h1 : (4096 : Int) < ls.length
  · go_wp2_with fail
    go_ret
    exact ⟨rfl, Below.refl _ _⟩
  by_cases h2 : (4096 : Int) < st.length
  · go_wp2_with fail
    go_ret
    exact ⟨rfl, Below.refl _ _⟩
  go_wp2_with fail
  refine (strBytes_num a0 ls c0 0 _ hm0 hs0 (by omega)).mono ?_
  rintro e w' ⟨⟨u1, rfl, hu1, _⟩, rfl⟩
  go_wp2_with fail
  refine (stepBytes_num a1 st c1 u1 _ hm1 hs1 hu1).mono ?_
  rintro e w' ⟨⟨u2, rfl, hu2, hu2'⟩, rfl⟩
  have HU2 := hidden hu2'
  clear hu2'
  go_wp2_with fail
  refine (text_num q u2 _ hu2).mono ?_
  rintro e w' ⟨⟨u3, rfl, hu3, hu3'⟩, rfl⟩
  go_wp2_with fail
  refine (text_num r u3 _ hu3).mono ?_
  rintro e w' ⟨⟨u4, rfl, hu4, hu4'⟩, rfl⟩
  by_cases h3 : 1048576 < u4
  · go_wp2_with fail
    go_ret
    exact ⟨rfl, Below.refl _ _⟩
  have hon : ∀ (i : Nat) (s : StepD), st[i]? = some s → s.on.length ≤ 1048576 := fun i s hi => by
    rcases HU2.out with h | h
    · omega
    · have := h i s hi
      omega
  have HON := hidden hon
  have HPP := hidden hpp
  clear hon hpp HU2
  go_wp2_with fail
  refine (build_nil a0 ls c0 a1 st c1 _ (by omega) hn0 hs0 (by omega) hn1 hs1 HON.out HPP.out).mono ?_
  rintro e w1 ⟨L, rfl, hI, hb⟩
  have hs0' := hs0.kept (below_grown hb)
  have hs1' := hs1.kept (below_grown hb)
  generalize hF : runF (st.map StepD.c) = F at hI
  generalize runBg ls (st.map StepD.c) = bgs at hI
  have HF := hidden hF
  have HS1 := hidden hs1'
  have sgn : ∀ (p : ByteArray) (r : Int), LastIs st p r → decide (0 ≤ r) = (F p).isSome := fun p r h => by rw [← HF.out]; exact last_sign h
  have SGN := hidden sgn
  clear hF hs0 hs1 HON hn0 hn1 hu1 hu2 hu3 hu3' hu4 hu4' hs1' sgn HF
  have hrr : (upd F r none r).isSome = false := by rw [upd_same]; rfl
  go_wp2_with fail
  refine (zzHas_any a0 ls c0 q _ hm0 hs0').mono ?_
  rintro e w1 ⟨rfl, rfl⟩
  cases hbq : hasS ls q
  · go_wp2_with fail
    refine (blocked_any w1 hI hm0 q hq).mono ?_
    rintro e w2 ⟨rfl, hg2⟩
    have hI2 := hI.kept hg2
    have hb2 := hb.trans (grown_below hg2 hb.size)
    clear hI hs0' hb hg2 HS1
    go_wp2_with fail
    refine (done_any w2 hI2 r hrs).mono ?_
    rintro e w3 ⟨rfl, hI3, hb3, _⟩
    have hb3' := hb2.trans hb3
    clear hI2 hb2 hb3
    go_wp2_with fail
    refine (blocked_any w3 hI3 hm0 q hq).mono ?_
    rintro e w4 ⟨rfl, hg4⟩
    have hI4 := hI3.kept hg4
    have hb4 := hb3'.trans (grown_below hg4 hb3'.size)
    clear hI3 hb3' hg4
    go_wp2_with fail
    refine (blocked_any w4 hI4 hm0 r hrs).mono ?_
    rintro e w5 ⟨rfl, hg5⟩
    have hb5 := hb4.trans (grown_below hg5 hb4.size)
    clear hI4 hb4 hg5
    go_wp2_with fail
    go_ret
    exact ⟨by simp, hb5⟩
  · go_wp2_with fail
    refine (lastWait_any a1 st c1 q _ hm1 HS1.out).mono ?_
    rintro e w1 ⟨⟨ri, rfl, hr⟩, rfl⟩
    have hr' := SGN.out q ri hr
    clear hr
    cases hx : (F q).isSome
    all_goals (
      rw [hx] at hr'
      simp only [decide_eq_true_eq, decide_eq_false_iff_not] at hr'
      go_wp2_with fail
      refine (blocked_any w1 hI hm0 q hq).mono ?_
      rintro e w2 ⟨rfl, hg2⟩
      have hI2 := hI.kept hg2
      have hb2 := hb.trans (grown_below hg2 hb.size)
      clear hI hs0' hb hg2 HS1
      go_wp2_with fail
      refine (done_any w2 hI2 r hrs).mono ?_
      rintro e w3 ⟨rfl, hI3, hb3, _⟩
      have hb3' := hb2.trans hb3
      clear hI2 hb2 hb3
      go_wp2_with fail
      refine (blocked_any w3 hI3 hm0 q hq).mono ?_
      rintro e w4 ⟨rfl, hg4⟩
      have hI4 := hI3.kept hg4
      have hb4 := hb3'.trans (grown_below hg4 hb3'.size)
      clear hI3 hb3' hg4
      have ha : (upd F r none q).isSome = ((F q).isSome && !(q.toList == r.toList)) := by
        unfold upd
        cases (q.toList == r.toList) <;> simp
      cases hqr : (q.toList == r.toList)
      all_goals (
        rw [hqr, hx] at ha
        simp only [Bool.not_true, Bool.not_false, Bool.and_true, Bool.and_false] at ha
        go_wp2_with fail
        refine (blocked_any w4 hI4 hm0 r hrs).mono ?_
        rintro e w5 ⟨rfl, hg5⟩
        have hb5 := hb4.trans (grown_below hg5 hb4.size)
        clear hI4 hb4 hg5
        go_wp2_with fail
        go_ret
        exact ⟨by simp, hb5⟩))

end Go.Proofs.Qxb6609132a
