import Derived.Test.Qxb6609132aBuildNil
import Derived.Test.Qxb6609132aLast
import Derived.Test.Qxb6609132aBytesB
namespace Go.Proofs.Qxb6609132a
open Go.RowKit Go.Maps

theorem below_grown {w w' : World} (h : Below w.heap.size w w') : w.grownBy w' none := ⟨h.os, h.tape, h.output, h.size, fun i hi _ => h.block i hi⟩

theorem StepsAt.kept {w w' : World} {a : Option Addr} {st : List StepD} (h : StepsAt w a st) (hg : w.grownBy w' none) : StepsAt w' a st := by
  rcases h with h | ⟨b, off, h1, h2⟩
  · exact .inl h
  · refine .inr ⟨b, off, h1, fun i s hi => ?_⟩
    obtain ⟨k0, k1, k2, k3, k4, k5, k6, k7⟩ := h2 i s hi
    exact ⟨hg.cell k0 (by simp), hg.cell k1 (by simp), hg.cell k2 (by simp), hg.cell k3 (by simp), hg.cell k4 (by simp), k5.kept hg, k6, k7⟩

theorem last_sign {st : List StepD} {q : ByteArray} {r : Int} (h : LastIs st q r) : decide (0 ≤ r) = (runF (st.map StepD.c) q).isSome := by
  rcases h with ⟨rfl, h⟩ | ⟨j, s, rfl, _, h⟩
  · rw [h]; rfl
  · rw [h]; simp

set_option maxRecDepth 20000 in
set_option maxHeartbeats 4000000 in
theorem walk4 (a0 : Option Addr) (ls : List ByteArray) (c0 : Nat) (a1 : Option Addr) (st : List StepD) (c1 : Nat) (q : ByteArray) (w : World)
    (hm0 : ls.length ≤ 9223372036854775807) (hn0 : a0 = none → ls = []) (hs0 : Strs w a0 ls) (hm1 : st.length ≤ 9223372036854775807) (hn1 : a1 = none → st = []) (hs1 : StepsAt w a1 st)
    (hpp : ∀ (i : Nat) (s : StepD), st[i]? = some s → s.p.size ≤ maxLen) (hq : q.size ≤ maxLen) :
    Calls Try.prog 4 #[.slice a0 ls.length c0, .slice a1 st.length c1, .string q] w fun e w' => e = .returned (.bool true) ∧ Below w.heap.size w w' := by
  go_enter Try.func4, Try.ntmps4
  go_wp2_with fail
  refine (bytes22 a0 ls c0 a1 st c1 q _ hm0 hs0 hm1 hs1).mono ?_
  rintro e w' ⟨⟨b, rfl⟩, rfl⟩
  cases b
  · go_wp2_with fail
    go_ret
    exact ⟨rfl, Below.refl _ _⟩
  by_cases h1 : (4096 : Int) < ls.length
  · go_wp2_with fail
    go_ret
    exact ⟨rfl, Below.refl _ _⟩
  by_cases h2 : (4096 : Int) < st.length
  · go_wp2_with fail
    go_ret
    exact ⟨rfl, Below.refl _ _⟩
  go_wp2_with fail
  refine (strBytes_num a0 ls c0 0 _ hm0 hs0 (by omega)).mono ?_
  rintro e w' ⟨⟨u1, rfl, hu1, _⟩, rfl⟩
  go_wp2_with fail
  refine (stepBytes_num a1 st c1 u1 _ hm1 hs1 hu1).mono ?_
  rintro e w' ⟨⟨u2, rfl, hu2, hu2'⟩, rfl⟩
  have HU2 := hidden hu2'
  clear hu2'
  go_wp2_with fail
  refine (text_num q u2 _ hu2).mono ?_
  rintro e w' ⟨⟨u3, rfl, hu3, hu3'⟩, rfl⟩
  by_cases h3 : 1048576 < u3
  · go_wp2_with fail
    go_ret
    exact ⟨rfl, Below.refl _ _⟩
  have hon : ∀ (i : Nat) (s : StepD), st[i]? = some s → s.on.length ≤ 1048576 := fun i s hi => by
    rcases HU2.out with h | h
    · omega
    · have := h i s hi
      omega
  have HON := hidden hon
  have HPP := hidden hpp
  clear hon hpp HU2
  go_wp2_with fail
  refine (build_nil a0 ls c0 a1 st c1 _ (by omega) hn0 hs0 (by omega) hn1 hs1 HON.out HPP.out).mono ?_
  rintro e w1 ⟨L, rfl, hI, hb⟩
  have hs0' := hs0.kept (below_grown hb)
  have hs1' := hs1.kept (below_grown hb)
  generalize hF : runF (st.map StepD.c) = F at hI
  generalize runBg ls (st.map StepD.c) = bgs at hI
  have HF := hidden hF
  clear hF hs0 hs1 HON hn0 hn1 hu1 hu2 hu3 hu3'
  go_wp2_with fail
  refine (blocked_any w1 hI hm0 q hq).mono ?_
  rintro e w2 ⟨rfl, hg2⟩
  have hI2 := hI.kept hg2
  have hs02 := hs0'.kept hg2
  have hs12 := hs1'.kept hg2
  have hb2 := hb.trans (grown_below hg2 hb.size)
  clear hI hs0' hs1' hb hg2
  go_wp2_with fail
  refine (zzHas_any a0 ls c0 q _ hm0 hs02).mono ?_
  rintro e w3 ⟨rfl, rfl⟩
  have HS1 := hidden hs12
  clear hs12
  have sgn : ∀ (p : ByteArray) (r : Int), LastIs st p r → decide (0 ≤ r) = (F p).isSome := fun p r h => by rw [← HF.out]; exact last_sign h
  have SGN := hidden sgn
  clear sgn HF
  cases hb : hasS ls q
  rotate_left
  cases hx : (F q).isSome
  all_goals (try (
    go_wp2_with fail
    refine (lastWait_any a1 st c1 q _ hm1 HS1.out).mono ?_
    rintro e w3 ⟨⟨r, rfl, hr⟩, rfl⟩
    have hr' := SGN.out q r hr
    simp only [hx, decide_eq_true_eq, decide_eq_false_iff_not] at hr'
    clear hr))
  all_goals go_wp2_with fail
  all_goals (
    clear hb
    (try clear hx)
    (try clear hr')
    go_loopw [9] (fun i wr => ∃ (k : Nat), k ≤ st.length ∧ i = .int .i64 k ∧ Inv w'.heap.size L 1 ls st.length F bgs (.map []) 0 wr ∧ Hid (Strs wr a0 ls) ∧ Hid (StepsAt wr a1 st) ∧ Below w'.heap.size w' wr) (fun i _ => st.length - (intOf i).toNat)
    case atStart => exact ⟨0, Nat.zero_le _, rfl, hI2, hs02, HS1.out, hb2⟩
    case round =>
      obtain ⟨k, hk, rfl, hIr, HR0, HR1, hbr⟩ := hrel
      clear hI2 hs02 HS1 hb2
      by_cases hlt : k < st.length
      · obtain ⟨s, hsk⟩ : ∃ s, st[k]? = some s := ⟨_, List.getElem?_eq_getElem hlt⟩
        have hps := HPP.out k s hsk
        rcases HR1.out with h | ⟨b, off, h, hc⟩
        · rw [h] at hlt; simp at hlt
        cases h
        have d0 := (hc k s hsk).c0
        clear hc hsk
        generalize s.p = p at d0 hps
        clear s
        go_wp2_with fail
        refine (blocked_any wr hIr hm0 p hps).mono ?_
        rintro e w5 ⟨rfl, hg5⟩
        have hI5 := hIr.kept hg5
        have HR05 := hidden (HR0.out.kept hg5)
        have HR15 := hidden (HR1.out.kept hg5)
        have hb5 := hbr.trans (grown_below hg5 hbr.size)
        clear hIr HR0 HR1 hbr hg5 d0
        go_wp2_with fail
        refine (zzHas_any a0 ls c0 p _ hm0 HR05.out).mono ?_
        rintro e w5 ⟨rfl, rfl⟩
        cases hb : hasS ls p
        rotate_left
        cases hx : (F p).isSome
        all_goals (try (
          go_wp2_with fail
          refine (lastWait_any (some ⟨b, off, none⟩) st c1 p _ hm1 HR15.out).mono ?_
          rintro e w5 ⟨⟨r, rfl, hr⟩, rfl⟩
          have hr' := SGN.out p r hr
          simp only [hx, decide_eq_true_eq, decide_eq_false_iff_not] at hr'
          clear hr))
        all_goals go_wp2_with fail
        all_goals (
          go_roundw
          case rel => exact ⟨k + 1, by omega, by go_num, hI5, HR05, HR15, hb5⟩
          case measure => simp [intOf]; omega)
      · clear HR1 HR0
        go_wp2_with fail
        go_ret
        exact ⟨rfl, hbr⟩)

end Go.Proofs.Qxb6609132a
