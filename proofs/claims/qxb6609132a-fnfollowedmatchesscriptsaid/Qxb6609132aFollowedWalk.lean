import Derived.Test.Qxb6609132aBlockedWalk
import Derived.Test.Qxb6609132aBytesD
import Derived.Test.Qxb6609132aSame
namespace Go.Proofs.Qxb6609132a
open Go.RowKit Go.Maps

/-- Both lists, side by side: nil and no wait to follow; or the same strings. -/
theorem pair_is {B : Nat} {w w' : World} {o : Option Rec} {lim : Int} {v : Value} {a : Option Addr} {n : Nat} (hw : folB o lim = true → ∃ r, o = some r ∧ n = r.on.length ∧ Strs w a r.on) (hv : FolIs B w' o lim v) (hg : w.grownBy w' none) :
    (folB o lim = false ∧ v = .slice none 0 0) ∨ ∃ (ss : List ByteArray) (x : Addr) (c' : Nat), folB o lim = true ∧ v = .slice (some x) ss.length c' ∧ n = ss.length ∧ Strs w' (some x) ss ∧ Strs w' a ss ∧ ss.length ≤ 9223372036854775807 := by
  rcases hv with ⟨h0, h1⟩ | ⟨r, x, c', ho, h1, hv, hown⟩
  · exact .inl ⟨h0, h1⟩
  · obtain ⟨r', ho', hn, hs⟩ := hw h1
    rw [ho] at ho'
    injection ho' with e
    subst e
    refine .inr ⟨r.on, x, c', h1, hv, hn, strs_of_owns hown, hs.kept hg, ?_⟩
    rcases hown.2 with ⟨h2, h3⟩ | ⟨g, cap, cur, _, _, _, h4, h5, _⟩
    · omega
    · unfold maxLen at h5
      omega

set_option maxRecDepth 20000 in
set_option maxHeartbeats 4000000 in
theorem walk6 (a0 : Option Addr) (ls : List ByteArray) (c0 : Nat) (a1 : Option Addr) (st : List StepD) (c1 : Nat) (ini : ByteArray) (d : Int) (q : ByteArray) (h : Int) (w : World)
    (hm0 : ls.length ≤ 9223372036854775807) (hn0 : a0 = none → ls = []) (hs0 : Strs w a0 ls) (hm1 : st.length ≤ 9223372036854775807) (hn1 : a1 = none → st = []) (hs1 : StepsAt w a1 st)
    (hpp : ∀ (i : Nat) (s : StepD), st[i]? = some s → s.p.size ≤ maxLen) (hq : q.size ≤ maxLen) :
    Calls Try.prog 6 #[.slice a0 ls.length c0, .slice a1 st.length c1, .string ini, .int .i64 d, .string q, .int .i64 h] w fun e w' => e = .returned (.bool true) ∧ Below w.heap.size w w' := by
  go_enter Try.func6, Try.ntmps6
  go_wp2_with fail
  refine (bytes29 a0 ls c0 a1 st c1 ini q d h _ hm0 hs0 hm1 hs1).mono ?_
  rintro e w' ⟨⟨b, rfl⟩, rfl⟩
  cases b
  · go_wp2_with fail
    go_ret
    exact ⟨rfl, Below.refl _ _⟩
  by_cases h1 : (4096 : Int) < ls.length
  · go_wp2_with fail
    go_ret
    exact ⟨rfl, Below.refl _ _⟩
  by_cases h2 : (4096 : Int) < st.length
  · go_wp2_with fail
    go_ret
    exact ⟨rfl, Below.refl _ _⟩
  go_wp2_with fail
  refine (strBytes_num a0 ls c0 0 _ hm0 hs0 (by omega)).mono ?_
  rintro e w' ⟨⟨u1, rfl, hu1, _⟩, rfl⟩
  go_wp2_with fail
  refine (stepBytes_num a1 st c1 u1 _ hm1 hs1 hu1).mono ?_
  rintro e w' ⟨⟨u2, rfl, hu2, hu2'⟩, rfl⟩
  have HU2 := hidden hu2'
  clear hu2'
  go_wp2_with fail
  refine (text_num ini u2 _ hu2).mono ?_
  rintro e w' ⟨⟨u3, rfl, hu3, hu3'⟩, rfl⟩
  go_wp2_with fail
  refine (text_num q u3 _ hu3).mono ?_
  rintro e w' ⟨⟨u4, rfl, hu4, hu4'⟩, rfl⟩
  by_cases h3 : 1048576 < u4
  · go_wp2_with fail
    go_ret
    exact ⟨rfl, Below.refl _ _⟩
  have hon : ∀ (i : Nat) (s : StepD), st[i]? = some s → s.on.length ≤ 1048576 := fun i s hi => by
    rcases HU2.out with h | h
    · omega
    · have := h i s hi
      omega
  have HON := hidden hon
  have HPP := hidden hpp
  clear hon hpp HU2
  go_wp2_with fail
  refine (build_nil a0 ls c0 a1 st c1 _ (by omega) hn0 hs0 (by omega) hn1 hs1 HON.out HPP.out).mono ?_
  rintro e w1 ⟨L, rfl, hI, hb⟩
  have hs1' := hs1.kept (below_grown hb)
  generalize hF : runF (st.map StepD.c) = F at hI
  generalize runBg ls (st.map StepD.c) = bgs at hI
  have HF := hidden hF
  have HS1 := hidden hs1'
  clear hF hs0 hs1 HON hn0 hn1 hu1 hu2 hu3 hu3' hu4 hu4' hs1'
  have hda := World.grownBy_alloc w1 (.cells #[.string ini, .int .i64 d] 36) none
  have HI := hidden (hI.kept hda)
  have HS1 := hidden (HS1.out.kept hda)
  have hb := hb.trans (grown_below hda hb.size)
  have HD := hidden (at_new (w := w1) (o := .cells #[.string ini, .int .i64 d] 36) rfl)
  clear hda hI
  go_wp2_with fail
  generalize w1.alloc (Obj.cells #[Value.string ini, Value.int IntKind.i64 d] 36) = w2 at HI HS1 hb HD ⊢
  generalize w1.heap.size = db at HD ⊢
  refine (want_any a1 st c1 ini q d h _ hm1 HS1.out).mono ?_
  rintro e w2 ⟨⟨wa, wn, wc, rfl, hwant⟩, rfl⟩
  rw [HF.out] at hwant ⊢
  have HW := hidden hwant
  have cd0 : w2.cell? ⟨db, 0, none⟩ = some (.string ini) := cell_of_block HD.out rfl
  have cd1 : w2.cell? ⟨db, 1, none⟩ = some (.int .i64 d) := cell_of_block HD.out rfl
  clear hwant
  go_wp2_with fail
  refine (zzfollowed_any w2 HI.out ini q d h hq).mono ?_
  rintro e w3 ⟨v, rfl, hv, hg3⟩
  have hpair := pair_is HW.out hv hg3
  have HI3 := hidden (HI.out.kept hg3)
  have HS3 := hidden (HS1.out.kept hg3)
  have hb3 := hb.trans (grown_below hg3 hb.size)
  have HD3 := hidden (block_kept HD.out hg3)
  clear HI HS1 hb HD hg3 hv HW cd0 cd1
  rcases hpair with ⟨hfb, hv⟩ | ⟨ss, x, c', hfb, hv, rfl, hx1, hx2, hx3⟩
  · rw [hv]
    go_wp2_with fail
    refine (same_nil wa wn wc w3).mono ?_
    rintro e w4 ⟨rfl, hw⟩
    have hg4 : w3.grownBy w4 none := by rw [hw]; exact World.grownBy.refl _ _
    clear hw
    have HI4 := hidden (HI3.out.kept hg4)
    have HS4 := hidden (HS3.out.kept hg4)
    have hb4 := hb3.trans (grown_below hg4 hb3.size)
    have HD4 := hidden (block_kept HD3.out hg4)
    clear HI3 HS3 hb3 HD3 hg4 hv hfb
    go_wp2_with fail
    go_loopw [18] (fun i wr => ∃ (k : Nat), k ≤ st.length ∧ i = .int .i64 k ∧ Hid (Inv w'.heap.size L 1 ls st.length F bgs (.map []) 0 wr) ∧ Hid (StepsAt wr a1 st) ∧ Hid (wr.heap[db]? = some (.cells #[.string ini, .int .i64 d] 36 (0, 0))) ∧ Below w'.heap.size w' wr) (fun i _ => st.length - (intOf i).toNat)
    case atStart => exact ⟨0, Nat.zero_le _, rfl, HI4, HS4, HD4, hb4⟩
    case round =>
      obtain ⟨k, hk, rfl, HIr, HR1, HDr, hbr⟩ := hrel
      clear HI4 HS4 HD4 hb4
      by_cases hlt : k < st.length
      · obtain ⟨s, hsk⟩ : ∃ s, st[k]? = some s := ⟨_, List.getElem?_eq_getElem hlt⟩
        have hps := HPP.out k s hsk
        have hd0 : ∃ b off, a1 = some ⟨b, off, none⟩ ∧ wr.cell? ⟨b, off + k * 5, none⟩ = some (.string s.p) := by
          rcases HR1.out with h | ⟨b, off, h, hc⟩
          · rw [h] at hlt; simp at hlt
          · exact ⟨b, off, h, (hc k s hsk).c0⟩
        obtain ⟨b, off, rfl, d0⟩ := hd0
        clear hsk
        generalize s.p = p at d0 hps
        clear s
        go_wp2_with fail
        refine (want_any (some ⟨b, off, none⟩) st c1 ini p d h _ hm1 HR1.out).mono ?_
        rintro e wr ⟨⟨va, vn, vc, rfl, hwant⟩, rfl⟩
        rw [HF.out] at hwant ⊢
        have HW := hidden hwant
        have cd0 : wr.cell? ⟨db, 0, none⟩ = some (.string ini) := cell_of_block HDr.out rfl
        have cd1 : wr.cell? ⟨db, 1, none⟩ = some (.int .i64 d) := cell_of_block HDr.out rfl
        clear hwant d0
        go_wp2_with fail
        refine (zzfollowed_any wr HIr.out ini p d h hps).mono ?_
        rintro e w5 ⟨v5, rfl, hv5, hg5⟩
        have hpair := pair_is HW.out hv5 hg5
        have HI5 := hidden (HIr.out.kept hg5)
        have HS5 := hidden (HR1.out.kept hg5)
        have hb5 := hbr.trans (grown_below hg5 hbr.size)
        have HD5 := hidden (block_kept HDr.out hg5)
        clear HIr HR1 HDr hbr hg5 hv5 HW cd0 cd1
        rcases hpair with ⟨hfb5, hv5⟩ | ⟨ss5, x5, c5, hfb5, hv5, rfl, hx15, hx25, hx35⟩
        · rw [hv5]
          go_wp2_with fail
          refine (same_nil va vn vc w5).mono ?_
          rintro e w6 ⟨rfl, hw⟩
          have hg6 : w5.grownBy w6 none := by rw [hw]; exact World.grownBy.refl _ _
          clear hw
          have HI6 := hidden (HI5.out.kept hg6)
          have HS6 := hidden (HS5.out.kept hg6)
          have hb6 := hb5.trans (grown_below hg6 hb5.size)
          have HD6 := hidden (block_kept HD5.out hg6)
          clear HI5 HS5 hb5 HD5 hg6 hv5 hfb5
          go_wp2_with fail
          go_roundw
          case rel => exact ⟨k + 1, by omega, by go_num, HI6, HS6, HD6, hb6⟩
          case measure => simp [intOf]; omega
        · rw [hv5]
          go_wp2_with fail
          refine (same_some x5 c5 va vc ss5 w5 hx35 hx15 hx25).mono ?_
          rintro e w6 ⟨rfl, hg6⟩
          have HI6 := hidden (HI5.out.kept hg6)
          have HS6 := hidden (HS5.out.kept hg6)
          have hb6 := hb5.trans (grown_below hg6 hb5.size)
          have HD6 := hidden (block_kept HD5.out hg6)
          clear HI5 HS5 hb5 HD5 hg6 hv5 hfb5 hx15 hx25 hx35
          go_wp2_with fail
          go_roundw
          case rel => exact ⟨k + 1, by omega, by go_num, HI6, HS6, HD6, hb6⟩
          case measure => simp [intOf]; omega
      · clear HR1 HIr HDr
        go_wp2_with fail
        go_ret
        exact ⟨rfl, hbr⟩
  · rw [hv]
    go_wp2_with fail
    refine (same_some x c' wa wc ss w3 hx3 hx1 hx2).mono ?_
    rintro e w4 ⟨rfl, hg4⟩
    have HI4 := hidden (HI3.out.kept hg4)
    have HS4 := hidden (HS3.out.kept hg4)
    have hb4 := hb3.trans (grown_below hg4 hb3.size)
    have HD4 := hidden (block_kept HD3.out hg4)
    clear HI3 HS3 hb3 HD3 hg4 hv hfb hx1 hx2 hx3
    go_wp2_with fail
    go_loopw [18] (fun i wr => ∃ (k : Nat), k ≤ st.length ∧ i = .int .i64 k ∧ Hid (Inv w'.heap.size L 1 ls st.length F bgs (.map []) 0 wr) ∧ Hid (StepsAt wr a1 st) ∧ Hid (wr.heap[db]? = some (.cells #[.string ini, .int .i64 d] 36 (0, 0))) ∧ Below w'.heap.size w' wr) (fun i _ => st.length - (intOf i).toNat)
    case atStart => exact ⟨0, Nat.zero_le _, rfl, HI4, HS4, HD4, hb4⟩
    case round =>
      obtain ⟨k, hk, rfl, HIr, HR1, HDr, hbr⟩ := hrel
      clear HI4 HS4 HD4 hb4
      by_cases hlt : k < st.length
      · obtain ⟨s, hsk⟩ : ∃ s, st[k]? = some s := ⟨_, List.getElem?_eq_getElem hlt⟩
        have hps := HPP.out k s hsk
        have hd0 : ∃ b off, a1 = some ⟨b, off, none⟩ ∧ wr.cell? ⟨b, off + k * 5, none⟩ = some (.string s.p) := by
          rcases HR1.out with h | ⟨b, off, h, hc⟩
          · rw [h] at hlt; simp at hlt
          · exact ⟨b, off, h, (hc k s hsk).c0⟩
        obtain ⟨b, off, rfl, d0⟩ := hd0
        clear hsk
        generalize s.p = p at d0 hps
        clear s
        go_wp2_with fail
        refine (want_any (some ⟨b, off, none⟩) st c1 ini p d h _ hm1 HR1.out).mono ?_
        rintro e wr ⟨⟨va, vn, vc, rfl, hwant⟩, rfl⟩
        rw [HF.out] at hwant ⊢
        have HW := hidden hwant
        have cd0 : wr.cell? ⟨db, 0, none⟩ = some (.string ini) := cell_of_block HDr.out rfl
        have cd1 : wr.cell? ⟨db, 1, none⟩ = some (.int .i64 d) := cell_of_block HDr.out rfl
        clear hwant d0
        go_wp2_with fail
        refine (zzfollowed_any wr HIr.out ini p d h hps).mono ?_
        rintro e w5 ⟨v5, rfl, hv5, hg5⟩
        have hpair := pair_is HW.out hv5 hg5
        have HI5 := hidden (HIr.out.kept hg5)
        have HS5 := hidden (HR1.out.kept hg5)
        have hb5 := hbr.trans (grown_below hg5 hbr.size)
        have HD5 := hidden (block_kept HDr.out hg5)
        clear HIr HR1 HDr hbr hg5 hv5 HW cd0 cd1
        rcases hpair with ⟨hfb5, hv5⟩ | ⟨ss5, x5, c5, hfb5, hv5, rfl, hx15, hx25, hx35⟩
        · rw [hv5]
          go_wp2_with fail
          refine (same_nil va vn vc w5).mono ?_
          rintro e w6 ⟨rfl, hw⟩
          have hg6 : w5.grownBy w6 none := by rw [hw]; exact World.grownBy.refl _ _
          clear hw
          have HI6 := hidden (HI5.out.kept hg6)
          have HS6 := hidden (HS5.out.kept hg6)
          have hb6 := hb5.trans (grown_below hg6 hb5.size)
          have HD6 := hidden (block_kept HD5.out hg6)
          clear HI5 HS5 hb5 HD5 hg6 hv5 hfb5
          go_wp2_with fail
          go_roundw
          case rel => exact ⟨k + 1, by omega, by go_num, HI6, HS6, HD6, hb6⟩
          case measure => simp [intOf]; omega
        · rw [hv5]
          go_wp2_with fail
          refine (same_some x5 c5 va vc ss5 w5 hx35 hx15 hx25).mono ?_
          rintro e w6 ⟨rfl, hg6⟩
          have HI6 := hidden (HI5.out.kept hg6)
          have HS6 := hidden (HS5.out.kept hg6)
          have hb6 := hb5.trans (grown_below hg6 hb5.size)
          have HD6 := hidden (block_kept HD5.out hg6)
          clear HI5 HS5 hb5 HD5 hg6 hv5 hfb5 hx15 hx25 hx35
          go_wp2_with fail
          go_roundw
          case rel => exact ⟨k + 1, by omega, by go_num, HI6, HS6, HD6, hb6⟩
          case measure => simp [intOf]; omega
      · clear HR1 HIr HDr
        go_wp2_with fail
        go_ret
        exact ⟨rfl, hbr⟩

end Go.Proofs.Qxb6609132a
