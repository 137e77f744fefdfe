import Derived.Test.Qxb6609132aBuildNil
import Derived.Test.Qxb6609132aFinish
import Derived.Test.Qxb6609132aDets
namespace Go.Proofs.Qxb6609132a
open Go.RowKit Go.Maps

/-- What the finished detections leave in the ended map. -/
def runE (fs : List DetD) : DataW Value := fs.foldl (fun E d => E.put (keyD d.ini d.at') (.held (.bool true))) (.map [])

theorem runE_snoc {fs : List DetD} {k : Nat} {s : DetD} (h : fs[k]? = some s) : runE (fs.take (k + 1)) = (runE (fs.take k)).put (keyD s.ini s.at') (.held (.bool true)) := by
  unfold runE
  rw [List.take_add_one, h, List.foldl_append]
  rfl

set_option maxRecDepth 20000 in
set_option maxHeartbeats 2000000 in
theorem build_fins (a0 : Option Addr) (ls : List ByteArray) (c0 : Nat) (a1 : Option Addr) (st : List StepD) (c1 : Nat) (w : World)
    (hm0 : ls.length ≤ 4096) (hn0 : a0 = none → ls = []) (hs0 : Strs w a0 ls) (hm1 : st.length ≤ 4096) (hn1 : a1 = none → st = []) (hs1 : StepsAt w a1 st) (hon : ∀ (i : Nat) (s : StepD), st[i]? = some s → s.on.length ≤ 1048576)
    (hpp : ∀ (i : Nat) (s : StepD), st[i]? = some s → s.p.size ≤ maxLen) (a2 : Option Addr) (fs : List DetD) (c2 : Nat) (hm2 : fs.length ≤ 4096) (hs2 : DetsAt w a2 fs) :
    Calls Try.prog 24 #[.slice a0 ls.length c0, .slice a1 st.length c1, .slice a2 fs.length c2] w fun e w' => ∃ L, e = .returned (.pointer (some ⟨L.sb, 0, none⟩)) ∧
      Inv w.heap.size L 1 ls (st.length + fs.length) (runF (st.map StepD.c)) (runBg ls (st.map StepD.c)) (runE fs) 0 w' ∧ Below w.heap.size w w' := by
  have HS2 := hidden hs2
  clear hs2
  go_enter Try.func24, Try.ntmps24
  go_wp2_with fail
  refine (clone_any a0 ls c0 _ (by omega) hn0 hs0).mono ?_
  rintro e w1 ⟨a', c', rfl, _, ho1, hb1⟩
  go_wp2_with fail
  refine (newSite_any w.heap.size a' c' ls 1 w1 hb1.size ho1).mono ?_
  rintro e w2 ⟨L, rfl, hI, hg2⟩
  have hb2 : Below w.heap.size w w2 := hb1.trans (grown_below hg2 hb1.size)
  have hgw : w.grownBy w2 none := ⟨hb2.os, hb2.tape, hb2.output, hb2.size, fun i hi _ => hb2.block i hi⟩
  have hs1' : StepsAt w2 a1 st := by
    rcases hs1 with h | ⟨b, off, h1, h2⟩
    · exact .inl h
    · refine .inr ⟨b, off, h1, fun i s hi => ?_⟩
      obtain ⟨k0, k1, k2, k3, k4, k5, k6, k7⟩ := h2 i s hi
      exact ⟨hgw.cell k0 (by simp), hgw.cell k1 (by simp), hgw.cell k2 (by simp), hgw.cell k3 (by simp), hgw.cell k4 (by simp), k5.kept hgw, k6, k7⟩
  have HS1 := hidden hs1'
  clear hs1 hs1' hgw hg2 ho1 hb1 hs0 hn0
  go_wp2_with fail
  refine (cloneSteps_any a1 st c1 _ hm1 hn1 HS1.out hon).mono ?_
  rintro e w3 ⟨a3, c3, st', rfl, hst, hrun, hg3⟩
  have hI3 := hI.kept hg3
  have hb3 := hb2.trans (grown_below hg3 hb2.size)
  have hlen : st'.length = st.length := by have := congrArg List.length hst; simpa using this
  have hpp' : ∀ (i : Nat) (s : StepD), st'[i]? = some s → s.p.size ≤ maxLen ∧ s.on.length ≤ 1048576 := fun i s hi => by
    have h1 : (st'.map StepD.c)[i]? = some s.c := by simp [hi]
    rw [hst] at h1
    rw [List.getElem?_map, Option.map_eq_some_iff] at h1
    obtain ⟨s0, h2, h3⟩ := h1
    have e1 : s0.p = s.p := congrArg StepC.p h3
    have e2 : s0.on = s.on := congrArg StepC.on h3
    rw [← e1, ← e2]
    exact ⟨hpp i s0 h2, hon i s0 h2⟩
  have HST := hidden hst
  have HLEN := hidden hlen
  have HPP := hidden hpp'
  clear HS1 hI hb2 hg3 hst hpp' hon hpp hn1 hlen
  go_wp2_with fail
  go_loopw [9] (fun i wr => ∃ (k : Nat), k ≤ st.length ∧ i = .int .i64 k ∧ Inv w.heap.size L 1 ls k (runF ((st'.take k).map StepD.c)) (runBg ls ((st'.take k).map StepD.c)) (.map []) 0 wr ∧ Hid (StepsRun w2.heap.size wr a3 st') ∧ Below w.heap.size w wr) (fun i _ => st.length - (intOf i).toNat)
  case atStart => exact ⟨0, Nat.zero_le _, rfl, hI3, hrun, hb3⟩
  case round =>
    obtain ⟨k, hk, rfl, hIr, HRUN, hbr⟩ := hrel
    clear hI3 hrun hb3
    by_cases hlt : k < st.length
    · rcases HRUN.out with h | ⟨g, h, hown⟩
      · have := HLEN.out; rw [h] at this; simp at this; omega
      cases h
      obtain ⟨s, hsk⟩ : ∃ s, st'[k]? = some s := ⟨_, List.getElem?_eq_getElem (by have := HLEN.out; omega)⟩
      obtain ⟨d0, d1, d2, d3, d4⟩ := steps_cells hown hsk
      have hstr := strs_of_owns (hown.on s (List.mem_of_getElem? hsk))
      obtain ⟨hps, hos⟩ := HPP.out k s hsk
      have hsorted := runBg_sorted ls ((st'.take k).map StepD.c)
      have hblen : (runBg ls ((st'.take k).map StepD.c)).length ≤ 1048575 := by
        have h1 := runBg_length ls ((st'.take k).map StepD.c)
        have h2 : ((st'.take k).map StepD.c).length ≤ k := by simp; omega
        omega
      have hk1 : (st'.take (k + 1)).map StepD.c = (st'.take k).map StepD.c ++ [s.c] := by
        rw [List.take_add_one, hsk, List.map_append]
        rfl
      have HF := hidden (runF_snoc ((st'.take k).map StepD.c) s.c)
      have HB := hidden (runBg_snoc ls ((st'.take k).map StepD.c) s.c)
      rw [← hk1] at HF HB
      have HIR := hidden hIr
      have HSTR := hidden hstr
      have HSO := hidden hsorted
      have hlti : (k : Int) < (st.length : Int) := by omega
      have hki : (0 : Int) ≤ (k : Int) := by omega
      generalize runF ((st'.take k).map StepD.c) = fk at *
      generalize runBg ls ((st'.take k).map StepD.c) = bk at *
      have HOWN := hidden hown
      have HSK := hidden hsk
      clear hIr hstr hsorted hk1 hown hsk
      cases hd : s.done
      · rw [hd] at d1
        go_wp2_with fail
        go_region_held3 (fun w' => w'.cell? ⟨g, k * 5, none⟩ = some (.string s.p) ∧ w'.cell? ⟨g, k * 5 + 2, none⟩ = some (.int .i64 s.model) ∧ w'.cell? ⟨g, k * 5 + 3, none⟩ = some (.slice s.oa s.on.length s.oc) ∧ w'.cell? ⟨g, k * 5 + 4, none⟩ = some (.int .i64 s.at')) (go_keep)
          ((go_at_call 41; refine (wait_any _ (HIR.out.kept (grown_drew wr)) (by unfold maxLen; omega) (by omega) hblen HSO.out s.c hd hps s.oa s.oc hos (HSTR.out.kept (grown_drew wr))).mono ?_; rintro e w5 ⟨rfl, hI5, hb5, hk5⟩; obtain ⟨f0, f1, f2, f3, f4⟩ := steps_cells (HOWN.out.rows ((rowsKept_grown (grown_drew wr)).trans hk5)) HSK.out))
        have HI5 := hidden hI5
        have HR5 : Hid (StepsRun w2.heap.size w5 (some ⟨g, 0, none⟩) st') := HRUN.out.rows ((rowsKept_grown (grown_drew wr)).trans hk5)
        have HB5 : Hid (Below w.heap.size w w5) := (hbr.trans (grown_below (grown_drew wr) hbr.size)).trans hb5
        clear hI5 hb5 hk5 f0 f1 f2 f3 f4 HIR HSTR HSO HOWN HSK d0 d1 d2 d3 d4 HRUN hbr
        go_wp2_with fail
        go_roundw
        case rel => exact ⟨k + 1, by omega, by go_num, by rw [HF.out, HB.out]; exact HI5.out, HR5, HB5.out⟩
        case measure => simp [intOf]; omega
      · rw [hd] at d1
        have hsd : stepF fk s.c = upd fk s.p none := by unfold stepF; rw [if_pos (show s.c.done = true from hd)]; rfl
        have hsb : stepBg ls bk s.c = bk := by unfold stepBg; rw [if_pos (show s.c.done = true from hd)]
        rw [hsd] at HF
        rw [hsb] at HB
        clear hsd hsb
        go_wp2_with fail
        refine (done_any _ HIR.out s.p hps).mono ?_
        rintro e w5 ⟨rfl, hI5, hb5, hk5⟩
        have HI5 := hidden (hI5.more (Nat.le_succ k))
        have HR5 : Hid (StepsRun w2.heap.size w5 (some ⟨g, 0, none⟩) st') := HRUN.out.rows hk5
        have HB5 : Hid (Below w.heap.size w w5) := hbr.trans hb5
        clear hI5 hb5 hk5 HIR HSTR HSO HOWN HSK d0 d1 d2 d3 d4 HRUN hbr
        go_wp2_with fail
        go_roundw
        case rel => exact ⟨k + 1, by omega, by go_num, by rw [HF.out, HB.out]; exact HI5.out, HR5, HB5.out⟩
        case measure => simp [intOf]; omega
    · have hfin : (st'.take k).map StepD.c = st.map StepD.c := by
        rw [List.take_of_length_le (by have := HLEN.out; omega)]
        exact HST.out
      rw [hfin] at hIr
      have hke : k = st.length := by omega
      subst hke
      have HIR := hidden hIr
      clear hfin hIr HRUN HPP HST HLEN
      go_wp2_with fail
      go_loopw [10] (fun i wv => ∃ (k : Nat), k ≤ fs.length ∧ i = .int .i64 k ∧ Hid (Inv w.heap.size L 1 ls (st.length + k) (runF (st.map StepD.c)) (runBg ls (st.map StepD.c)) (runE (fs.take k)) 0 wv) ∧ Hid (Below w.heap.size w wv)) (fun i _ => fs.length - (intOf i).toNat)
      case atStart => exact ⟨0, Nat.zero_le _, rfl, HIR, hbr⟩
      case round =>
        clear HIR hbr
        obtain ⟨k, hk, rfl, HIR, HBR⟩ := hrel
        by_cases hlt : k < fs.length
        · rcases HS2.out.below HBR.out with h | ⟨b, off, rfl, hc⟩
          · rw [h] at hlt; simp at hlt
          obtain ⟨s, hsk⟩ : ∃ s, fs[k]? = some s := ⟨_, List.getElem?_eq_getElem hlt⟩
          obtain ⟨d0, d1, hs, ha⟩ := hc k s hsk
          have HK := hidden (runE_snoc hsk)
          have HC : Hid (∀ wx : World, Below w.heap.size w wx → wx.cell? ⟨b, off + k * 2, none⟩ = some (.string s.ini) ∧ wx.cell? ⟨b, off + k * 2 + 1, none⟩ = some (.int .i64 s.at')) := fun wx hx => by
            rcases HS2.out.below hx with h | ⟨b', off', e, hc'⟩
            · rw [h] at hlt; simp at hlt
            · cases e
              exact ⟨(hc' k s hsk).1, (hc' k s hsk).2.1⟩
          have hki : (0 : Int) ≤ (k : Int) := by omega
          have hlti : (k : Int) < (fs.length : Int) := by omega
          clear hc hsk
          go_wp2_with fail
          go_region_held3 (fun w' => w'.cell? ⟨b, off + k * 2, none⟩ = some (.string s.ini) ∧ w'.cell? ⟨b, off + k * 2 + 1, none⟩ = some (.int .i64 s.at')) (go_keep)
            ((go_at_call 42; refine (finish_any _ (HIR.out.kept (grown_drew wr)) HBR.out.size (by unfold maxLen; omega) s.ini s.at' hs ha).mono ?_; rintro e w5 ⟨rfl, hI5, hb5⟩; have HB5 := hidden ((HBR.out.trans (grown_below (grown_drew wr) HBR.out.size)).trans hb5); obtain ⟨f0, f1⟩ := HC.out w5 HB5.out; have HI5 := hidden hI5; clear hI5 hb5))
          clear f0 f1 d0 d1 HC HIR HBR
          go_wp2_with fail
          go_roundw
          case rel => exact ⟨k + 1, by omega, by go_num, by rw [HK.out]; exact HI5.out, HB5⟩
          case measure => simp [intOf]; omega
        · have hke : k = fs.length := by omega
          subst hke
          rw [List.take_length] at HIR
          go_wp2_with fail
          go_ret
          exact ⟨L, rfl, HIR.out, HBR.out⟩

end Go.Proofs.Qxb6609132a
