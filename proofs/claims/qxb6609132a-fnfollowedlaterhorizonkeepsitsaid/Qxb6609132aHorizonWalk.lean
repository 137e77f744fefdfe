import Derived.Test.Qxb6609132aFollowedWalk
import Derived.Test.Qxb6609132aBytesE
namespace Go.Proofs.Qxb6609132a
open Go.RowKit Go.Maps

theorem FolIs.kept {B : Nat} {w w' : World} {o : Option Rec} {lim : Int} {v : Value} (h : FolIs B w o lim v) (hg : w.grownBy w' none) : FolIs B w' o lim v := by
  rcases h with h | ⟨r, a, c, h1, h2, h3, h4⟩
  · exact .inl h
  · exact .inr ⟨r, a, c, h1, h2, h3, owns_kept h4 hg⟩

theorem fol_mono {o : Option Rec} {a b : Int} (h : folB o a = true) (hab : a ≤ b) : folB o b = true := by
  cases o with
  | none => cases h
  | some r =>
    simp only [folB, Bool.and_eq_true, decide_eq_true_eq] at h ⊢
    exact ⟨h.1, by omega⟩

theorem owns_small {w : World} {B : Nat} {v : Value} {n : Nat} {xs : List Value} {e : TypeId} (h : w.ownsRow B e 1 v n xs) : n ≤ 9223372036854775807 := by
  rcases h.2 with ⟨_, h3⟩ | ⟨g, cap, cur, _, _, _, h4, h5, _⟩
  · omega
  · unfold maxLen at h5
    omega

set_option maxRecDepth 20000 in
set_option maxHeartbeats 1000000 in
theorem walk7 (a0 : Option Addr) (ls : List ByteArray) (c0 : Nat) (a1 : Option Addr) (st : List StepD) (c1 : Nat) (ini : ByteArray) (d : Int) (q : ByteArray) (h hh : Int) (w : World)
    (hm0 : ls.length ≤ 9223372036854775807) (hn0 : a0 = none → ls = []) (hs0 : Strs w a0 ls) (hm1 : st.length ≤ 9223372036854775807) (hn1 : a1 = none → st = []) (hs1 : StepsAt w a1 st)
    (hpp : ∀ (i : Nat) (s : StepD), st[i]? = some s → s.p.size ≤ maxLen) (hq : q.size ≤ maxLen) :
    Calls Try.prog 7 #[.slice a0 ls.length c0, .slice a1 st.length c1, .string ini, .int .i64 d, .string q, .int .i64 h, .int .i64 hh] w fun e w' => e = .returned (.bool true) ∧ Below w.heap.size w w' := by
  go_enter Try.func7, Try.ntmps7
  go_wp2_with fail
  refine (bytes32 a0 ls c0 a1 st c1 ini q d h hh _ hm0 hs0 hm1 hs1).mono ?_
  rintro e w' ⟨⟨b, rfl⟩, rfl⟩
  cases b
  · go_wp2_with fail
    go_ret
    exact ⟨rfl, Below.refl _ _⟩
  by_cases h1 : (4096 : Int) < ls.length
  · go_wp2_with fail
    go_ret
    exact ⟨rfl, Below.refl _ _⟩
  by_cases h2 : (4096 : Int) < st.length
  · go_wp2_with fail
    go_ret
    exact ⟨rfl, Below.refl _ _⟩
  go_wp2_with fail
  refine (strBytes_num a0 ls c0 0 _ hm0 hs0 (by omega)).mono ?_
  rintro e w' ⟨⟨u1, rfl, hu1, _⟩, rfl⟩
  go_wp2_with fail
  refine (stepBytes_num a1 st c1 u1 _ hm1 hs1 hu1).mono ?_
  rintro e w' ⟨⟨u2, rfl, hu2, hu2'⟩, rfl⟩
  have HU2 := hidden hu2'
  clear hu2'
  go_wp2_with fail
  refine (text_num ini u2 _ hu2).mono ?_
  rintro e w' ⟨⟨u3, rfl, hu3, hu3'⟩, rfl⟩
  go_wp2_with fail
  refine (text_num q u3 _ hu3).mono ?_
  rintro e w' ⟨⟨u4, rfl, hu4, hu4'⟩, rfl⟩
  by_cases h3 : 1048576 < u4
  · go_wp2_with fail
    go_ret
    exact ⟨rfl, Below.refl _ _⟩
  have hon : ∀ (i : Nat) (s : StepD), st[i]? = some s → s.on.length ≤ 1048576 := fun i s hi => by
    rcases HU2.out with h | h
    · omega
    · have := h i s hi
      omega
  have HON := hidden hon
  have HPP := hidden hpp
  clear hon hpp HU2
  go_wp2_with fail
  refine (build_nil a0 ls c0 a1 st c1 _ (by omega) hn0 hs0 (by omega) hn1 hs1 HON.out HPP.out).mono ?_
  rintro e w1 ⟨L, rfl, hI, hb⟩
  have hs1' := hs1.kept (below_grown hb)
  generalize hF : runF (st.map StepD.c) = F at hI
  generalize runBg ls (st.map StepD.c) = bgs at hI
  have HF := hidden hF
  have HS1 := hidden hs1'
  clear hF hs0 hs1 HON hn0 hn1 hu1 hu2 hu3 hu3' hu4 hu4' hs1' HPP h1 h2
  have hda := World.grownBy_alloc w1 (.cells #[.string ini, .int .i64 d] 36) none
  have HI := hidden (hI.kept hda)
  have HS1 := hidden (HS1.out.kept hda)
  have hb := hb.trans (grown_below hda hb.size)
  have HD := hidden (at_new (w := w1) (o := .cells #[.string ini, .int .i64 d] 36) rfl)
  clear hda hI
  go_wp2_with fail
  generalize w1.alloc (Obj.cells #[Value.string ini, Value.int IntKind.i64 d] 36) = w2 at HI HS1 hb HD ⊢
  generalize w1.heap.size = db at HD ⊢
  refine (zzfollowed_any w2 HI.out ini q d h hq).mono ?_
  rintro e w3 ⟨v1, rfl, hv1, hg3⟩
  have HI3 := hidden (HI.out.kept hg3)
  have HS3 := hidden (HS1.out.kept hg3)
  have hb3 := hb.trans (grown_below hg3 hb.size)
  have HD3 := hidden (block_kept HD.out hg3)
  have cd0 : w3.cell? ⟨db, 0, none⟩ = some (.string ini) := cell_of_block HD3.out rfl
  have cd1 : w3.cell? ⟨db, 1, none⟩ = some (.int .i64 d) := cell_of_block HD3.out rfl
  have HV1 := hidden hv1
  clear HI HS1 hb HD hg3 hv1
  go_wp2_with fail
  refine (zzfollowed_any w3 HI3.out ini q d hh hq).mono ?_
  rintro e w4 ⟨v2, rfl, hv2, hg4⟩
  have HS4 := hidden (HS3.out.kept hg4)
  have hb4 := hb3.trans (grown_below hg4 hb3.size)
  have HV1 := hidden (HV1.out.kept hg4)
  have HV2 := hidden hv2
  clear HI3 HS3 hb3 HD3 hg4 hv2 cd0 cd1
  go_wp2_with fail
  refine (want_any a1 st c1 ini q d h _ hm1 HS4.out).mono ?_
  rintro e w4 ⟨⟨wa, wn, wc, rfl, hwant⟩, rfl⟩
  rw [HF.out] at hwant ⊢
  have HW := hidden hwant
  clear hwant HS4
  -- the two lists, and the list that is wanted
  rcases HV1.out with ⟨hf1, hv1⟩ | ⟨r1, x1, cx1, ho1, hf1, hv1, hown1⟩
  · rw [hv1]
    go_wp2_with fail
    refine (same_nil wa wn wc w4).mono ?_
    rintro e w4 ⟨rfl, rfl⟩
    clear HV1 hv1 HW
    cases hqi : (q.toList == ini.toList)
    · by_cases hle : hh ≤ h
      · have hf2 : folB (F q) (limOf q ini d hh) = false := by
          cases hx : folB (F q) (limOf q ini d hh)
          · rfl
          · unfold limOf at hx hf1
            rw [hqi] at hx hf1
            simp only [Bool.false_eq_true, if_false] at hx hf1
            rw [fol_mono hx hle] at hf1
            cases hf1
        rcases HV2.out with ⟨_, hv2⟩ | ⟨r2, x2, cx2, _, hf2', _, _⟩
        · rw [hv2]
          have hnil := fun (w : World) => Lib.run_eql_slice_nil (P := Try.prog) w 22 9 none 0 0 0 0 Try.underlying22
          go_wp2_with fail
          go_ret
          exact ⟨rfl, hb4⟩
        · rw [hf2] at hf2'; cases hf2'
      · go_wp2_with fail
        go_ret
        exact ⟨rfl, hb4⟩
    · have hf2 : folB (F q) (limOf q ini d hh) = false := by
        unfold limOf at hf1 ⊢
        rw [hqi] at hf1 ⊢
        exact hf1
      rcases HV2.out with ⟨_, hv2⟩ | ⟨r2, x2, cx2, _, hf2', _, _⟩
      · rw [hv2]
        go_wp2_with fail
        refine (same_nil wa wn wc w4).mono ?_
        rintro e w4 ⟨rfl, rfl⟩
        go_wp2_with fail
        go_ret
        exact ⟨rfl, hb4⟩
      · rw [hf2] at hf2'; cases hf2'
  · obtain ⟨r', ho', hwn, hstr⟩ := HW.out hf1
    rw [ho1] at ho'
    injection ho' with er
    subst er
    subst hwn
    rw [hv1]
    have hs1r := strs_of_owns hown1
    have hsm := owns_small hown1
    have HO1 := hidden ho1
    clear ho1
    go_wp2_with fail
    refine (same_some x1 cx1 wa wc r1.on w4 hsm hs1r hstr).mono ?_
    rintro e w5 ⟨rfl, hg5⟩
    have hb5 := hb4.trans (grown_below hg5 hb4.size)
    have hstr5 := hstr.kept hg5
    have HV2 := hidden (HV2.out.kept hg5)
    clear HV1 hv1 HW hs1r hstr hb4 hown1 hg5
    cases hqi : (q.toList == ini.toList)
    · by_cases hle : h ≤ hh
      · have hf2 : folB (F q) (limOf q ini d hh) = true := by
          unfold limOf at hf1 ⊢
          rw [hqi] at hf1 ⊢
          simp only [Bool.false_eq_true, if_false] at hf1 ⊢
          exact fol_mono hf1 hle
        rcases HV2.out with ⟨hf2', _⟩ | ⟨r2, x2, cx2, ho2, _, hv2, hown2⟩
        · rw [hf2] at hf2'; cases hf2'
        · rw [HO1.out] at ho2
          injection ho2 with er
          subst er
          rw [hv2]
          have hs2r := strs_of_owns hown2
          go_wp2_with fail
          refine (same_some x2 cx2 wa wc r1.on w5 hsm hs2r hstr5).mono ?_
          rintro e w6 ⟨rfl, hg6⟩
          have hb6 := hb5.trans (grown_below hg6 hb5.size)
          clear HV2 hs2r hstr5 hown2 hg6
          go_wp2_with fail
          go_ret
          exact ⟨rfl, hb6⟩
      · go_wp2_with fail
        go_ret
        exact ⟨rfl, hb5⟩
    · have hf2 : folB (F q) (limOf q ini d hh) = true := by
        unfold limOf at hf1 ⊢
        rw [hqi] at hf1 ⊢
        exact hf1
      rcases HV2.out with ⟨hf2', _⟩ | ⟨r2, x2, cx2, ho2, _, hv2, hown2⟩
      · rw [hf2] at hf2'; cases hf2'
      · rw [HO1.out] at ho2
        injection ho2 with er
        subst er
        rw [hv2]
        have hs2r := strs_of_owns hown2
        go_wp2_with fail
        refine (same_some x2 cx2 wa wc r1.on w5 hsm hs2r hstr5).mono ?_
        rintro e w6 ⟨rfl, hg6⟩
        have hb6 := hb5.trans (grown_below hg6 hb5.size)
        clear HV2 hs2r hstr5 hown2 hg6
        go_wp2_with fail
        go_ret
        exact ⟨rfl, hb6⟩

end Go.Proofs.Qxb6609132a
