import Derived.Test.Qxb6609132aBools
import Derived.Test.Qxb6609132aBytesF
import Derived.Test.Qxb6609132aBlockedWalk
import Derived.BigQuiet
import Derived.Deep.QuietTactic
namespace Go.Proofs.Qxb6609132a
open Go.RowKit Go.Maps

theorem grown_drewN {w w1 : World} (h : w.grownBy w1 none) (n : Nat) : w.grownBy (w1.drewN n) none := grown_trans h ⟨rfl, rfl, rfl, Nat.le_refl _, fun _ _ _ => rfl⟩

set_option maxRecDepth 20000 in
set_option maxHeartbeats 8000000 in
theorem walk8 (a0 : Option Addr) (ls : List ByteArray) (c0 : Nat) (a1 : Option Addr) (st : List StepD) (c1 : Nat) (a2 : Option Addr) (fs : List DetD) (c2 : Nat) (b1 b2 : Int) (w : World)
    (hm0 : ls.length ≤ 9223372036854775807) (hn0 : a0 = none → ls = []) (hs0 : Strs w a0 ls) (hm1 : st.length ≤ 9223372036854775807) (hn1 : a1 = none → st = []) (hs1 : StepsAt w a1 st)
    (hpp : ∀ (i : Nat) (s : StepD), st[i]? = some s → s.p.size ≤ maxLen) (hm2 : fs.length ≤ 9223372036854775807) (hs2 : DetsAt w a2 fs) :
    Calls Try.prog 8 #[.slice a0 ls.length c0, .slice a1 st.length c1, .slice a2 fs.length c2, .int .i64 b1, .int .i64 b2] w fun e w' => e = .returned (.bool true) ∧ Below w.heap.size w w' := by
  go_enter Try.func8, Try.ntmps8
  go_wp2_with fail
  refine (bytes33 a0 ls c0 a1 st c1 a2 fs c2 b1 b2 _ hm0 hs0 hm1 hs1 hm2 hs2).mono ?_
  rintro e w' ⟨⟨b, rfl⟩, rfl⟩
  cases b
  · go_wp2_with fail
    go_ret
    exact ⟨rfl, Below.refl _ _⟩
  by_cases h1 : (4096 : Int) < ls.length
  · go_wp2_with fail
    go_ret
    exact ⟨rfl, Below.refl _ _⟩
  by_cases h2 : (4096 : Int) < st.length
  · go_wp2_with fail
    go_ret
    exact ⟨rfl, Below.refl _ _⟩
  by_cases h3 : (4096 : Int) < fs.length
  · go_wp2_with fail
    go_ret
    exact ⟨rfl, Below.refl _ _⟩
  go_wp2_with fail
  refine (strBytes_num a0 ls c0 0 _ hm0 hs0 (by omega)).mono ?_
  rintro e w' ⟨⟨u1, rfl, hu1, _⟩, rfl⟩
  go_wp2_with fail
  refine (stepBytes_num a1 st c1 u1 _ hm1 hs1 hu1).mono ?_
  rintro e w' ⟨⟨u2, rfl, hu2, hu2'⟩, rfl⟩
  have HU2 := hidden hu2'
  clear hu2'
  go_wp2_with fail
  refine (detBytes_num a2 fs c2 u2 _ hm2 hs2 hu2).mono ?_
  rintro e w' ⟨⟨u3, rfl, hu3, hu3'⟩, rfl⟩
  by_cases h4 : 1048576 < u3
  · go_wp2_with fail
    go_ret
    exact ⟨rfl, Below.refl _ _⟩
  have hon : ∀ (i : Nat) (s : StepD), st[i]? = some s → s.on.length ≤ 1048576 := fun i s hi => by
    rcases HU2.out with h | h
    · omega
    · have := h i s hi
      omega
  have HON := hidden hon
  have HPP := hidden hpp
  have HS0 := hidden hs0
  have HS1 := hidden hs1
  have HS2 := hidden hs2
  have HN0 := hidden hn0
  have HN1 := hidden hn1
  have hl0 : ls.length ≤ 4096 := by omega
  have hl1 : st.length ≤ 4096 := by omega
  have hl2 : fs.length ≤ 4096 := by omega
  clear hon hpp HU2 hs0 hs1 hs2 hn0 hn1 hu1 hu2 hu3 hu3'
  go_wp2_with fail
  refine (build_fins a0 ls c0 a1 st c1 _ hl0 HN0.out HS0.out hl1 HN1.out HS1.out HON.out HPP.out a2 fs c2 hl2 HS2.out).mono ?_
  rintro e w1 ⟨L1, rfl, hI1, hb1⟩
  have HK1 := hidden hI1.core
  have HB1 := hidden hb1
  clear hI1 hb1
  go_wp2_with fail
  refine (build_fins a0 ls c0 a1 st c1 _ hl0 HN0.out (HS0.out.kept (below_grown HB1.out)) hl1 HN1.out (HS1.out.kept (below_grown HB1.out)) HON.out HPP.out a2 fs c2 hl2 (HS2.out.below HB1.out)).mono ?_
  rintro e w2 ⟨L2, rfl, hI2, hb2⟩
  have HK2 := hidden hI2.core
  have HK1' := hidden (HK1.out.same (w' := w2) (fun k _ hk => hb2.block k hk))
  have HB2 := hidden (HB1.out.trans (hb2.mono HB1.out.size))
  have hC1 : w1.heap.size ≤ w2.heap.size := hb2.size
  have hB1 : w'.heap.size ≤ w1.heap.size := HB1.out.size
  have hso := runBg_sorted ls (st.map StepD.c)
  have hln : (runBg ls (st.map StepD.c)).length ≤ 1048576 := by
    have h := runBg_length ls (st.map StepD.c)
    simp only [List.length_map] at h
    omega
  have hbo := bools_runE fs
  generalize runBg ls (st.map StepD.c) = bg at HK1' HK2 hso hln
  generalize runE fs = E at HK1' HK2 hbo
  generalize st.length + fs.length = N at HK1' HK2
  have HSO := hidden hso
  have HBO := hidden hbo
  obtain ⟨pd, hpd1, hpd2⟩ := olds
  have HP := hidden hpd1
  have HCUT := hidden (cutBg_twice hso b1 b2)
  have HDEL := hidden (del_twice hpd2 b1 b2 E)
  clear hI2 hb2 hso hbo hpd1 hpd2 HK1 HB1 HS0 HS1 HN0 HN1 HON HPP
  by_cases h12 : b1 < b2
  · by_cases hneg : b2 < 0
    · have hmx : mx b1 b2 = b2 := by unfold mx; rw [if_pos h12]
      have hwf : mx 0 b2 = 0 := by unfold mx; split <;> omega
      rw [hmx] at HCUT HDEL
      have HMX := hidden ((mx_twice b1 b2).trans ((congrArg (mx 0) hmx).trans hwf))
      have HWF := hidden hwf
      clear hmx hwf
      go_wp2_with fail
      refine (forget_any _ b1 (pd b1) (HP.out b1) HK1'.out hC1 HSO.out hln).mono ?_
      rintro e w3 ⟨rfl, k1, f1⟩
      have HK13 := hidden k1
      have HK23 := hidden (HK2.out.same (w' := w3) (fun k hk hk' => f1.block k hk' (.inr hk)))
      have HB3 := hidden (HB2.out.trans (f1.below HB2.out.size))
      have hs3 := f1.size
      clear k1 f1 HK1' HK2 HB2
      go_wp2_with fail
      refine (forget_any _ b2 (pd b2) (HP.out b2) HK13.out (Nat.le_trans hC1 hs3) (cutBg_sorted HSO.out b1) (Nat.le_trans (cutBg_length bg b1) hln)).mono ?_
      rintro e w4 ⟨rfl, k1, f1⟩
      rw [HCUT.out, HDEL.out, HMX.out] at k1
      have HK14 := hidden k1
      have HK24 := hidden (HK23.out.same (w' := w4) (fun k hk hk' => f1.block k (Nat.lt_of_lt_of_le hk' hs3) (.inr hk)))
      have HB4 := hidden (HB3.out.trans (f1.below HB3.out.size))
      have hs4 := f1.size
      clear k1 f1 HK13 HK23 HB3 HCUT HDEL HMX
      go_wp2_with fail
      refine (forget_any _ b2 (pd b2) (HP.out b2) HK24.out (Nat.le_trans hs3 hs4) HSO.out hln).mono ?_
      rintro e w5 ⟨rfl, k2, f2⟩
      rw [HWF.out] at k2
      have HK25 := hidden k2
      have HK15 := hidden (HK14.out.same (w' := w5) (fun k _ hk => f2.block k (by omega) (.inl hk)))
      have HB5 := hidden (HB4.out.trans ((f2.below (by omega)).mono hB1))
      have hsz5 : w2.heap.size ≤ w5.heap.size := Nat.le_trans (Nat.le_trans hs3 hs4) f2.size
      have hbx := HBO.out.del (fun k _ => pd b2 k)
      have hlx : (cutBg bg b2).length ≤ 1048576 := Nat.le_trans (cutBg_length bg b2) hln
      generalize cutBg bg b2 = bx at HK15 HK25 hlx
      generalize Lib.deleteFuncD (fun k _ => pd b2 k) E = Ex at HK15 HK25 hbx
      have HBX := hidden hbx
      clear k2 f2 HK14 HK24 HB4 HWF HP HSO HBO hbx hs3 hs4
      have hww : ((0 : Int) != 0) = false := by simp
      go_wp2_with fail
      refine HK15.out.forgotten.mono ?_
      rintro e w6 ⟨rfl, rfl⟩
      go_wp2_with fail
      refine HK25.out.forgotten.mono ?_
      rintro e w6 ⟨rfl, rfl⟩
      go_wp2_with fail
      refine HK15.out.begun.mono ?_
      rintro e w6 ⟨⟨x1, y1, rfl, hi1⟩, rfl⟩
      have HI1 := hidden hi1
      clear hi1
      go_wp2_with fail
      refine HK25.out.begun.mono ?_
      rintro e w6 ⟨⟨x2, y2, rfl, hi2⟩, rfl⟩
      have HI2 := hidden hi2
      clear hi2
      have hll : ((bx.length : Int) != (bx.length : Int)) = false := by simp
      go_wp2_with fail
      go_loopw [18] (fun i wr => ∃ (k : Nat), k ≤ bx.length ∧ i = .int .i64 k ∧ Hid (w6.grownBy wr none)) (fun i _ => bx.length - (intOf i).toNat)
      case atStart => exact ⟨0, Nat.zero_le _, rfl, World.grownBy.refl _ _⟩
      case round =>
        obtain ⟨k, hk, rfl, HG⟩ := hrel
        by_cases hlt : k < bx.length
        · rcases HI1.out with h | ⟨q1, o1, rfl, hc1⟩
          · rw [h] at hlt; simp at hlt
          rcases HI2.out with h | ⟨q2, o2, rfl, hc2⟩
          · rw [h] at hlt; simp at hlt
          have d1 := HG.out.cell (hc1 k hlt) (by simp)
          have d2 := HG.out.cell (hc2 k hlt) (by simp)
          have hki : (0 : Int) ≤ (k : Int) := by omega
          have hlti : (k : Int) < (bx.length : Int) := by omega
          clear hc1 hc2
          generalize bx.getD k 0 = y at d1 d2
          have hyy : (y != y) = false := by simp
          go_wp2_with fail
          go_quiet (fail)
          go_wp2_with fail
          go_roundw
          case rel => exact ⟨k + 1, by omega, by go_num, grown_drewN HG.out _⟩
          case measure => simp [intOf]; omega
        · clear HI1 HI2
          have HK1r := hidden (HK15.out.grown (Nat.le_trans hC1 hsz5) HG.out)
          have HK2r := hidden (HK25.out.grown hsz5 HG.out)
          have HBr := hidden (HB5.out.trans (grown_below HG.out HB5.out.size))
          have hszr : w2.heap.size ≤ wr.heap.size := Nat.le_trans hsz5 HG.out.size
          clear HK15 HK25 HB5 HG
          go_wp2_with fail
          refine HK1r.out.endedMap.mono ?_
          rintro e w7 ⟨rfl, rfl⟩
          go_wp2_with fail
          refine HK2r.out.endedMap.mono ?_
          rintro e w7 ⟨rfl, rfl⟩
          have hlen1 : ∀ ty, (Builtin.len_ #[33] ty #[.map (some L1.mE)]).run Try.prog w7 = .ok (.int .i64 (Maps.size Ex)) w7 := fun ty => HK1r.out.ended.len Try.underlying33 ty
          have hlen2 : ∀ ty, (Builtin.len_ #[33] ty #[.map (some L2.mE)]).run Try.prog w7 = .ok (.int .i64 (Maps.size Ex)) w7 := fun ty => HK2r.out.ended.len Try.underlying33 ty
          generalize Maps.size Ex = z at hlen1 hlen2
          have hzz : ((z : Int) != (z : Int)) = false := by simp
          go_wp2_with fail
          clear hlen1 hlen2 hzz hlt hk
          go_loopw [21] (fun i wv => ∃ (j : Nat), j ≤ fs.length ∧ i = .int .i64 j ∧ Hid (w7.grownBy wv none)) (fun i _ => fs.length - (intOf i).toNat)
          case atStart => exact ⟨0, Nat.zero_le _, rfl, World.grownBy.refl _ _⟩
          case round =>
            obtain ⟨j, hj, rfl, HG⟩ := hrel
            by_cases hlj : j < fs.length
            · rcases (HS2.out.below HBr.out).kept HG.out with h | ⟨q, off, rfl, hc⟩
              · rw [h] at hlj; simp at hlj
              obtain ⟨s, hsk⟩ : ∃ s, fs[j]? = some s := ⟨_, List.getElem?_eq_getElem hlj⟩
              obtain ⟨d0, d1, hs, ha⟩ := hc j s hsk
              clear hc hsk
              have hji : (0 : Int) ≤ (j : Int) := by omega
              have hjl : (j : Int) < (fs.length : Int) := by omega
              go_wp2_with fail
              have hqlt := World.block_lt_of_cell? wr _ d0
              simp only at hqlt
              have hne : wr.heap.size ≠ q := by omega
              have hga : wr.grownBy (wr.alloc (Obj.cells #[Value.string s.ini, Value.int IntKind.i64 s.at'] 36)).drew none := grown_trans (World.grownBy_alloc wr _ none) (grown_drew _)
              have HGA := hidden (grown_trans HG.out hga)
              have e0 : (wr.alloc (Obj.cells #[Value.string s.ini, Value.int IntKind.i64 s.at'] 36)).drew.cell? ⟨wr.heap.size, 0, none⟩ = some (.string s.ini) := by go_keep
              have e1 : (wr.alloc (Obj.cells #[Value.string s.ini, Value.int IntKind.i64 s.at'] 36)).drew.cell? ⟨wr.heap.size, 1, none⟩ = some (.int .i64 s.at') := by go_keep
              obtain ⟨bq, hbq⟩ := HBX.out.at (keyD s.ini s.at')
              have hlk1 : ∀ n : Nat, (Instr.lookup 33 (.map (some L1.mE)) (.agg #[.string s.ini, .int .i64 s.at']) false).run Try.prog ((wr.alloc (Obj.cells #[Value.string s.ini, Value.int IntKind.i64 s.at'] 36)).drew.drewN n) = .ok (.bool bq) ((wr.alloc (Obj.cells #[Value.string s.ini, Value.int IntKind.i64 s.at'] 36)).drew.drewN n) := fun n => looked (HK1r.out.ended.kept (grown_drewN HGA.out n) (by simp)) hs ha hbq
              have hlk2 : ∀ n : Nat, (Instr.lookup 33 (.map (some L2.mE)) (.agg #[.string s.ini, .int .i64 s.at']) false).run Try.prog ((wr.alloc (Obj.cells #[Value.string s.ini, Value.int IntKind.i64 s.at'] 36)).drew.drewN n) = .ok (.bool bq) ((wr.alloc (Obj.cells #[Value.string s.ini, Value.int IntKind.i64 s.at'] 36)).drew.drewN n) := fun n => looked (HK2r.out.ended.kept (grown_drewN HGA.out n) (by simp)) hs ha hbq
              have hbb : (bq != bq) = false := by simp
              clear hga hbq
              go_region_held3 (fun w' => w'.cell? ⟨q, off + j * 2, none⟩ = some (.string s.ini) ∧ w'.cell? ⟨q, off + j * 2 + 1, none⟩ = some (.int .i64 s.at')) (go_keep) (fail)
              generalize (wr.alloc (Obj.cells #[Value.string s.ini, Value.int IntKind.i64 s.at'] 36)).drew = wx at HGA e0 e1 hlk1 hlk2 ⊢
              clear d0 d1
              go_wp2_with fail
              go_quiet (fail)
              go_wp2_with fail
              go_roundw
              case rel => exact ⟨j + 1, by omega, by go_num, grown_drewN HGA.out _⟩
              case measure => simp [intOf]; omega
            · go_wp2_with fail
              go_ret
              exact ⟨rfl, HBr.out.trans (grown_below HG.out HBr.out.size)⟩
    · have hmx : mx b1 b2 = b2 := by unfold mx; rw [if_pos h12]
      have hwf : mx 0 b2 = b2 := by unfold mx; split <;> omega
      rw [hmx] at HCUT HDEL
      have HMX := hidden ((mx_twice b1 b2).trans ((congrArg (mx 0) hmx).trans hwf))
      have HWF := hidden hwf
      clear hmx hwf
      go_wp2_with fail
      refine (forget_any _ b1 (pd b1) (HP.out b1) HK1'.out hC1 HSO.out hln).mono ?_
      rintro e w3 ⟨rfl, k1, f1⟩
      have HK13 := hidden k1
      have HK23 := hidden (HK2.out.same (w' := w3) (fun k hk hk' => f1.block k hk' (.inr hk)))
      have HB3 := hidden (HB2.out.trans (f1.below HB2.out.size))
      have hs3 := f1.size
      clear k1 f1 HK1' HK2 HB2
      go_wp2_with fail
      refine (forget_any _ b2 (pd b2) (HP.out b2) HK13.out (Nat.le_trans hC1 hs3) (cutBg_sorted HSO.out b1) (Nat.le_trans (cutBg_length bg b1) hln)).mono ?_
      rintro e w4 ⟨rfl, k1, f1⟩
      rw [HCUT.out, HDEL.out, HMX.out] at k1
      have HK14 := hidden k1
      have HK24 := hidden (HK23.out.same (w' := w4) (fun k hk hk' => f1.block k (Nat.lt_of_lt_of_le hk' hs3) (.inr hk)))
      have HB4 := hidden (HB3.out.trans (f1.below HB3.out.size))
      have hs4 := f1.size
      clear k1 f1 HK13 HK23 HB3 HCUT HDEL HMX
      go_wp2_with fail
      refine (forget_any _ b2 (pd b2) (HP.out b2) HK24.out (Nat.le_trans hs3 hs4) HSO.out hln).mono ?_
      rintro e w5 ⟨rfl, k2, f2⟩
      rw [HWF.out] at k2
      have HK25 := hidden k2
      have HK15 := hidden (HK14.out.same (w' := w5) (fun k _ hk => f2.block k (by omega) (.inl hk)))
      have HB5 := hidden (HB4.out.trans ((f2.below (by omega)).mono hB1))
      have hsz5 : w2.heap.size ≤ w5.heap.size := Nat.le_trans (Nat.le_trans hs3 hs4) f2.size
      have hbx := HBO.out.del (fun k _ => pd b2 k)
      have hlx : (cutBg bg b2).length ≤ 1048576 := Nat.le_trans (cutBg_length bg b2) hln
      generalize cutBg bg b2 = bx at HK15 HK25 hlx
      generalize Lib.deleteFuncD (fun k _ => pd b2 k) E = Ex at HK15 HK25 hbx
      have HBX := hidden hbx
      clear k2 f2 HK14 HK24 HB4 HWF HP HSO HBO hbx hs3 hs4
      have hww : ((b2 : Int) != b2) = false := by simp
      go_wp2_with fail
      refine HK15.out.forgotten.mono ?_
      rintro e w6 ⟨rfl, rfl⟩
      go_wp2_with fail
      refine HK25.out.forgotten.mono ?_
      rintro e w6 ⟨rfl, rfl⟩
      go_wp2_with fail
      refine HK15.out.begun.mono ?_
      rintro e w6 ⟨⟨x1, y1, rfl, hi1⟩, rfl⟩
      have HI1 := hidden hi1
      clear hi1
      go_wp2_with fail
      refine HK25.out.begun.mono ?_
      rintro e w6 ⟨⟨x2, y2, rfl, hi2⟩, rfl⟩
      have HI2 := hidden hi2
      clear hi2
      have hll : ((bx.length : Int) != (bx.length : Int)) = false := by simp
      go_wp2_with fail
      go_loopw [18] (fun i wr => ∃ (k : Nat), k ≤ bx.length ∧ i = .int .i64 k ∧ Hid (w6.grownBy wr none)) (fun i _ => bx.length - (intOf i).toNat)
      case atStart => exact ⟨0, Nat.zero_le _, rfl, World.grownBy.refl _ _⟩
      case round =>
        obtain ⟨k, hk, rfl, HG⟩ := hrel
        by_cases hlt : k < bx.length
        · rcases HI1.out with h | ⟨q1, o1, rfl, hc1⟩
          · rw [h] at hlt; simp at hlt
          rcases HI2.out with h | ⟨q2, o2, rfl, hc2⟩
          · rw [h] at hlt; simp at hlt
          have d1 := HG.out.cell (hc1 k hlt) (by simp)
          have d2 := HG.out.cell (hc2 k hlt) (by simp)
          have hki : (0 : Int) ≤ (k : Int) := by omega
          have hlti : (k : Int) < (bx.length : Int) := by omega
          clear hc1 hc2
          generalize bx.getD k 0 = y at d1 d2
          have hyy : (y != y) = false := by simp
          go_wp2_with fail
          go_quiet (fail)
          go_wp2_with fail
          go_roundw
          case rel => exact ⟨k + 1, by omega, by go_num, grown_drewN HG.out _⟩
          case measure => simp [intOf]; omega
        · clear HI1 HI2
          have HK1r := hidden (HK15.out.grown (Nat.le_trans hC1 hsz5) HG.out)
          have HK2r := hidden (HK25.out.grown hsz5 HG.out)
          have HBr := hidden (HB5.out.trans (grown_below HG.out HB5.out.size))
          have hszr : w2.heap.size ≤ wr.heap.size := Nat.le_trans hsz5 HG.out.size
          clear HK15 HK25 HB5 HG
          go_wp2_with fail
          refine HK1r.out.endedMap.mono ?_
          rintro e w7 ⟨rfl, rfl⟩
          go_wp2_with fail
          refine HK2r.out.endedMap.mono ?_
          rintro e w7 ⟨rfl, rfl⟩
          have hlen1 : ∀ ty, (Builtin.len_ #[33] ty #[.map (some L1.mE)]).run Try.prog w7 = .ok (.int .i64 (Maps.size Ex)) w7 := fun ty => HK1r.out.ended.len Try.underlying33 ty
          have hlen2 : ∀ ty, (Builtin.len_ #[33] ty #[.map (some L2.mE)]).run Try.prog w7 = .ok (.int .i64 (Maps.size Ex)) w7 := fun ty => HK2r.out.ended.len Try.underlying33 ty
          generalize Maps.size Ex = z at hlen1 hlen2
          have hzz : ((z : Int) != (z : Int)) = false := by simp
          go_wp2_with fail
          clear hlen1 hlen2 hzz hlt hk
          go_loopw [21] (fun i wv => ∃ (j : Nat), j ≤ fs.length ∧ i = .int .i64 j ∧ Hid (w7.grownBy wv none)) (fun i _ => fs.length - (intOf i).toNat)
          case atStart => exact ⟨0, Nat.zero_le _, rfl, World.grownBy.refl _ _⟩
          case round =>
            obtain ⟨j, hj, rfl, HG⟩ := hrel
            by_cases hlj : j < fs.length
            · rcases (HS2.out.below HBr.out).kept HG.out with h | ⟨q, off, rfl, hc⟩
              · rw [h] at hlj; simp at hlj
              obtain ⟨s, hsk⟩ : ∃ s, fs[j]? = some s := ⟨_, List.getElem?_eq_getElem hlj⟩
              obtain ⟨d0, d1, hs, ha⟩ := hc j s hsk
              clear hc hsk
              have hji : (0 : Int) ≤ (j : Int) := by omega
              have hjl : (j : Int) < (fs.length : Int) := by omega
              go_wp2_with fail
              have hqlt := World.block_lt_of_cell? wr _ d0
              simp only at hqlt
              have hne : wr.heap.size ≠ q := by omega
              have hga : wr.grownBy (wr.alloc (Obj.cells #[Value.string s.ini, Value.int IntKind.i64 s.at'] 36)).drew none := grown_trans (World.grownBy_alloc wr _ none) (grown_drew _)
              have HGA := hidden (grown_trans HG.out hga)
              have e0 : (wr.alloc (Obj.cells #[Value.string s.ini, Value.int IntKind.i64 s.at'] 36)).drew.cell? ⟨wr.heap.size, 0, none⟩ = some (.string s.ini) := by go_keep
              have e1 : (wr.alloc (Obj.cells #[Value.string s.ini, Value.int IntKind.i64 s.at'] 36)).drew.cell? ⟨wr.heap.size, 1, none⟩ = some (.int .i64 s.at') := by go_keep
              obtain ⟨bq, hbq⟩ := HBX.out.at (keyD s.ini s.at')
              have hlk1 : ∀ n : Nat, (Instr.lookup 33 (.map (some L1.mE)) (.agg #[.string s.ini, .int .i64 s.at']) false).run Try.prog ((wr.alloc (Obj.cells #[Value.string s.ini, Value.int IntKind.i64 s.at'] 36)).drew.drewN n) = .ok (.bool bq) ((wr.alloc (Obj.cells #[Value.string s.ini, Value.int IntKind.i64 s.at'] 36)).drew.drewN n) := fun n => looked (HK1r.out.ended.kept (grown_drewN HGA.out n) (by simp)) hs ha hbq
              have hlk2 : ∀ n : Nat, (Instr.lookup 33 (.map (some L2.mE)) (.agg #[.string s.ini, .int .i64 s.at']) false).run Try.prog ((wr.alloc (Obj.cells #[Value.string s.ini, Value.int IntKind.i64 s.at'] 36)).drew.drewN n) = .ok (.bool bq) ((wr.alloc (Obj.cells #[Value.string s.ini, Value.int IntKind.i64 s.at'] 36)).drew.drewN n) := fun n => looked (HK2r.out.ended.kept (grown_drewN HGA.out n) (by simp)) hs ha hbq
              have hbb : (bq != bq) = false := by simp
              clear hga hbq
              go_region_held3 (fun w' => w'.cell? ⟨q, off + j * 2, none⟩ = some (.string s.ini) ∧ w'.cell? ⟨q, off + j * 2 + 1, none⟩ = some (.int .i64 s.at')) (go_keep) (fail)
              generalize (wr.alloc (Obj.cells #[Value.string s.ini, Value.int IntKind.i64 s.at'] 36)).drew = wx at HGA e0 e1 hlk1 hlk2 ⊢
              clear d0 d1
              go_wp2_with fail
              go_quiet (fail)
              go_wp2_with fail
              go_roundw
              case rel => exact ⟨j + 1, by omega, by go_num, grown_drewN HGA.out _⟩
              case measure => simp [intOf]; omega
            · go_wp2_with fail
              go_ret
              exact ⟨rfl, HBr.out.trans (grown_below HG.out HBr.out.size)⟩
  · by_cases hneg : b1 < 0
    · have hmx : mx b1 b2 = b1 := by unfold mx; rw [if_neg h12]
      have hwf : mx 0 b1 = 0 := by unfold mx; split <;> omega
      rw [hmx] at HCUT HDEL
      have HMX := hidden ((mx_twice b1 b2).trans ((congrArg (mx 0) hmx).trans hwf))
      have HWF := hidden hwf
      clear hmx hwf
      go_wp2_with fail
      refine (forget_any _ b1 (pd b1) (HP.out b1) HK1'.out hC1 HSO.out hln).mono ?_
      rintro e w3 ⟨rfl, k1, f1⟩
      have HK13 := hidden k1
      have HK23 := hidden (HK2.out.same (w' := w3) (fun k hk hk' => f1.block k hk' (.inr hk)))
      have HB3 := hidden (HB2.out.trans (f1.below HB2.out.size))
      have hs3 := f1.size
      clear k1 f1 HK1' HK2 HB2
      go_wp2_with fail
      refine (forget_any _ b2 (pd b2) (HP.out b2) HK13.out (Nat.le_trans hC1 hs3) (cutBg_sorted HSO.out b1) (Nat.le_trans (cutBg_length bg b1) hln)).mono ?_
      rintro e w4 ⟨rfl, k1, f1⟩
      rw [HCUT.out, HDEL.out, HMX.out] at k1
      have HK14 := hidden k1
      have HK24 := hidden (HK23.out.same (w' := w4) (fun k hk hk' => f1.block k (Nat.lt_of_lt_of_le hk' hs3) (.inr hk)))
      have HB4 := hidden (HB3.out.trans (f1.below HB3.out.size))
      have hs4 := f1.size
      clear k1 f1 HK13 HK23 HB3 HCUT HDEL HMX
      go_wp2_with fail
      refine (forget_any _ b1 (pd b1) (HP.out b1) HK24.out (Nat.le_trans hs3 hs4) HSO.out hln).mono ?_
      rintro e w5 ⟨rfl, k2, f2⟩
      rw [HWF.out] at k2
      have HK25 := hidden k2
      have HK15 := hidden (HK14.out.same (w' := w5) (fun k _ hk => f2.block k (by omega) (.inl hk)))
      have HB5 := hidden (HB4.out.trans ((f2.below (by omega)).mono hB1))
      have hsz5 : w2.heap.size ≤ w5.heap.size := Nat.le_trans (Nat.le_trans hs3 hs4) f2.size
      have hbx := HBO.out.del (fun k _ => pd b1 k)
      have hlx : (cutBg bg b1).length ≤ 1048576 := Nat.le_trans (cutBg_length bg b1) hln
      generalize cutBg bg b1 = bx at HK15 HK25 hlx
      generalize Lib.deleteFuncD (fun k _ => pd b1 k) E = Ex at HK15 HK25 hbx
      have HBX := hidden hbx
      clear k2 f2 HK14 HK24 HB4 HWF HP HSO HBO hbx hs3 hs4
      have hww : ((0 : Int) != 0) = false := by simp
      go_wp2_with fail
      refine HK15.out.forgotten.mono ?_
      rintro e w6 ⟨rfl, rfl⟩
      go_wp2_with fail
      refine HK25.out.forgotten.mono ?_
      rintro e w6 ⟨rfl, rfl⟩
      go_wp2_with fail
      refine HK15.out.begun.mono ?_
      rintro e w6 ⟨⟨x1, y1, rfl, hi1⟩, rfl⟩
      have HI1 := hidden hi1
      clear hi1
      go_wp2_with fail
      refine HK25.out.begun.mono ?_
      rintro e w6 ⟨⟨x2, y2, rfl, hi2⟩, rfl⟩
      have HI2 := hidden hi2
      clear hi2
      have hll : ((bx.length : Int) != (bx.length : Int)) = false := by simp
      go_wp2_with fail
      go_loopw [18] (fun i wr => ∃ (k : Nat), k ≤ bx.length ∧ i = .int .i64 k ∧ Hid (w6.grownBy wr none)) (fun i _ => bx.length - (intOf i).toNat)
      case atStart => exact ⟨0, Nat.zero_le _, rfl, World.grownBy.refl _ _⟩
      case round =>
        obtain ⟨k, hk, rfl, HG⟩ := hrel
        by_cases hlt : k < bx.length
        · rcases HI1.out with h | ⟨q1, o1, rfl, hc1⟩
          · rw [h] at hlt; simp at hlt
          rcases HI2.out with h | ⟨q2, o2, rfl, hc2⟩
          · rw [h] at hlt; simp at hlt
          have d1 := HG.out.cell (hc1 k hlt) (by simp)
          have d2 := HG.out.cell (hc2 k hlt) (by simp)
          have hki : (0 : Int) ≤ (k : Int) := by omega
          have hlti : (k : Int) < (bx.length : Int) := by omega
          clear hc1 hc2
          generalize bx.getD k 0 = y at d1 d2
          have hyy : (y != y) = false := by simp
          go_wp2_with fail
          go_quiet (fail)
          go_wp2_with fail
          go_roundw
          case rel => exact ⟨k + 1, by omega, by go_num, grown_drewN HG.out _⟩
          case measure => simp [intOf]; omega
        · clear HI1 HI2
          have HK1r := hidden (HK15.out.grown (Nat.le_trans hC1 hsz5) HG.out)
          have HK2r := hidden (HK25.out.grown hsz5 HG.out)
          have HBr := hidden (HB5.out.trans (grown_below HG.out HB5.out.size))
          have hszr : w2.heap.size ≤ wr.heap.size := Nat.le_trans hsz5 HG.out.size
          clear HK15 HK25 HB5 HG
          go_wp2_with fail
          refine HK1r.out.endedMap.mono ?_
          rintro e w7 ⟨rfl, rfl⟩
          go_wp2_with fail
          refine HK2r.out.endedMap.mono ?_
          rintro e w7 ⟨rfl, rfl⟩
          have hlen1 : ∀ ty, (Builtin.len_ #[33] ty #[.map (some L1.mE)]).run Try.prog w7 = .ok (.int .i64 (Maps.size Ex)) w7 := fun ty => HK1r.out.ended.len Try.underlying33 ty
          have hlen2 : ∀ ty, (Builtin.len_ #[33] ty #[.map (some L2.mE)]).run Try.prog w7 = .ok (.int .i64 (Maps.size Ex)) w7 := fun ty => HK2r.out.ended.len Try.underlying33 ty
          generalize Maps.size Ex = z at hlen1 hlen2
          have hzz : ((z : Int) != (z : Int)) = false := by simp
          go_wp2_with fail
          clear hlen1 hlen2 hzz hlt hk
          go_loopw [21] (fun i wv => ∃ (j : Nat), j ≤ fs.length ∧ i = .int .i64 j ∧ Hid (w7.grownBy wv none)) (fun i _ => fs.length - (intOf i).toNat)
          case atStart => exact ⟨0, Nat.zero_le _, rfl, World.grownBy.refl _ _⟩
          case round =>
            obtain ⟨j, hj, rfl, HG⟩ := hrel
            by_cases hlj : j < fs.length
            · rcases (HS2.out.below HBr.out).kept HG.out with h | ⟨q, off, rfl, hc⟩
              · rw [h] at hlj; simp at hlj
              obtain ⟨s, hsk⟩ : ∃ s, fs[j]? = some s := ⟨_, List.getElem?_eq_getElem hlj⟩
              obtain ⟨d0, d1, hs, ha⟩ := hc j s hsk
              clear hc hsk
              have hji : (0 : Int) ≤ (j : Int) := by omega
              have hjl : (j : Int) < (fs.length : Int) := by omega
              go_wp2_with fail
              have hqlt := World.block_lt_of_cell? wr _ d0
              simp only at hqlt
              have hne : wr.heap.size ≠ q := by omega
              have hga : wr.grownBy (wr.alloc (Obj.cells #[Value.string s.ini, Value.int IntKind.i64 s.at'] 36)).drew none := grown_trans (World.grownBy_alloc wr _ none) (grown_drew _)
              have HGA := hidden (grown_trans HG.out hga)
              have e0 : (wr.alloc (Obj.cells #[Value.string s.ini, Value.int IntKind.i64 s.at'] 36)).drew.cell? ⟨wr.heap.size, 0, none⟩ = some (.string s.ini) := by go_keep
              have e1 : (wr.alloc (Obj.cells #[Value.string s.ini, Value.int IntKind.i64 s.at'] 36)).drew.cell? ⟨wr.heap.size, 1, none⟩ = some (.int .i64 s.at') := by go_keep
              obtain ⟨bq, hbq⟩ := HBX.out.at (keyD s.ini s.at')
              have hlk1 : ∀ n : Nat, (Instr.lookup 33 (.map (some L1.mE)) (.agg #[.string s.ini, .int .i64 s.at']) false).run Try.prog ((wr.alloc (Obj.cells #[Value.string s.ini, Value.int IntKind.i64 s.at'] 36)).drew.drewN n) = .ok (.bool bq) ((wr.alloc (Obj.cells #[Value.string s.ini, Value.int IntKind.i64 s.at'] 36)).drew.drewN n) := fun n => looked (HK1r.out.ended.kept (grown_drewN HGA.out n) (by simp)) hs ha hbq
              have hlk2 : ∀ n : Nat, (Instr.lookup 33 (.map (some L2.mE)) (.agg #[.string s.ini, .int .i64 s.at']) false).run Try.prog ((wr.alloc (Obj.cells #[Value.string s.ini, Value.int IntKind.i64 s.at'] 36)).drew.drewN n) = .ok (.bool bq) ((wr.alloc (Obj.cells #[Value.string s.ini, Value.int IntKind.i64 s.at'] 36)).drew.drewN n) := fun n => looked (HK2r.out.ended.kept (grown_drewN HGA.out n) (by simp)) hs ha hbq
              have hbb : (bq != bq) = false := by simp
              clear hga hbq
              go_region_held3 (fun w' => w'.cell? ⟨q, off + j * 2, none⟩ = some (.string s.ini) ∧ w'.cell? ⟨q, off + j * 2 + 1, none⟩ = some (.int .i64 s.at')) (go_keep) (fail)
              generalize (wr.alloc (Obj.cells #[Value.string s.ini, Value.int IntKind.i64 s.at'] 36)).drew = wx at HGA e0 e1 hlk1 hlk2 ⊢
              clear d0 d1
              go_wp2_with fail
              go_quiet (fail)
              go_wp2_with fail
              go_roundw
              case rel => exact ⟨j + 1, by omega, by go_num, grown_drewN HGA.out _⟩
              case measure => simp [intOf]; omega
            · go_wp2_with fail
              go_ret
              exact ⟨rfl, HBr.out.trans (grown_below HG.out HBr.out.size)⟩
    · have hmx : mx b1 b2 = b1 := by unfold mx; rw [if_neg h12]
      have hwf : mx 0 b1 = b1 := by unfold mx; split <;> omega
      rw [hmx] at HCUT HDEL
      have HMX := hidden ((mx_twice b1 b2).trans ((congrArg (mx 0) hmx).trans hwf))
      have HWF := hidden hwf
      clear hmx hwf
      go_wp2_with fail
      refine (forget_any _ b1 (pd b1) (HP.out b1) HK1'.out hC1 HSO.out hln).mono ?_
      rintro e w3 ⟨rfl, k1, f1⟩
      have HK13 := hidden k1
      have HK23 := hidden (HK2.out.same (w' := w3) (fun k hk hk' => f1.block k hk' (.inr hk)))
      have HB3 := hidden (HB2.out.trans (f1.below HB2.out.size))
      have hs3 := f1.size
      clear k1 f1 HK1' HK2 HB2
      go_wp2_with fail
      refine (forget_any _ b2 (pd b2) (HP.out b2) HK13.out (Nat.le_trans hC1 hs3) (cutBg_sorted HSO.out b1) (Nat.le_trans (cutBg_length bg b1) hln)).mono ?_
      rintro e w4 ⟨rfl, k1, f1⟩
      rw [HCUT.out, HDEL.out, HMX.out] at k1
      have HK14 := hidden k1
      have HK24 := hidden (HK23.out.same (w' := w4) (fun k hk hk' => f1.block k (Nat.lt_of_lt_of_le hk' hs3) (.inr hk)))
      have HB4 := hidden (HB3.out.trans (f1.below HB3.out.size))
      have hs4 := f1.size
      clear k1 f1 HK13 HK23 HB3 HCUT HDEL HMX
      go_wp2_with fail
      refine (forget_any _ b1 (pd b1) (HP.out b1) HK24.out (Nat.le_trans hs3 hs4) HSO.out hln).mono ?_
      rintro e w5 ⟨rfl, k2, f2⟩
      rw [HWF.out] at k2
      have HK25 := hidden k2
      have HK15 := hidden (HK14.out.same (w' := w5) (fun k _ hk => f2.block k (by omega) (.inl hk)))
      have HB5 := hidden (HB4.out.trans ((f2.below (by omega)).mono hB1))
      have hsz5 : w2.heap.size ≤ w5.heap.size := Nat.le_trans (Nat.le_trans hs3 hs4) f2.size
      have hbx := HBO.out.del (fun k _ => pd b1 k)
      have hlx : (cutBg bg b1).length ≤ 1048576 := Nat.le_trans (cutBg_length bg b1) hln
      generalize cutBg bg b1 = bx at HK15 HK25 hlx
      generalize Lib.deleteFuncD (fun k _ => pd b1 k) E = Ex at HK15 HK25 hbx
      have HBX := hidden hbx
      clear k2 f2 HK14 HK24 HB4 HWF HP HSO HBO hbx hs3 hs4
      have hww : ((b1 : Int) != b1) = false := by simp
      go_wp2_with fail
      refine HK15.out.forgotten.mono ?_
      rintro e w6 ⟨rfl, rfl⟩
      go_wp2_with fail
      refine HK25.out.forgotten.mono ?_
      rintro e w6 ⟨rfl, rfl⟩
      go_wp2_with fail
      refine HK15.out.begun.mono ?_
      rintro e w6 ⟨⟨x1, y1, rfl, hi1⟩, rfl⟩
      have HI1 := hidden hi1
      clear hi1
      go_wp2_with fail
      refine HK25.out.begun.mono ?_
      rintro e w6 ⟨⟨x2, y2, rfl, hi2⟩, rfl⟩
      have HI2 := hidden hi2
      clear hi2
      have hll : ((bx.length : Int) != (bx.length : Int)) = false := by simp
      go_wp2_with fail
      go_loopw [18] (fun i wr => ∃ (k : Nat), k ≤ bx.length ∧ i = .int .i64 k ∧ Hid (w6.grownBy wr none)) (fun i _ => bx.length - (intOf i).toNat)
      case atStart => exact ⟨0, Nat.zero_le _, rfl, World.grownBy.refl _ _⟩
      case round =>
        obtain ⟨k, hk, rfl, HG⟩ := hrel
        by_cases hlt : k < bx.length
        · rcases HI1.out with h | ⟨q1, o1, rfl, hc1⟩
          · rw [h] at hlt; simp at hlt
          rcases HI2.out with h | ⟨q2, o2, rfl, hc2⟩
          · rw [h] at hlt; simp at hlt
          have d1 := HG.out.cell (hc1 k hlt) (by simp)
          have d2 := HG.out.cell (hc2 k hlt) (by simp)
          have hki : (0 : Int) ≤ (k : Int) := by omega
          have hlti : (k : Int) < (bx.length : Int) := by omega
          clear hc1 hc2
          generalize bx.getD k 0 = y at d1 d2
          have hyy : (y != y) = false := by simp
          go_wp2_with fail
          go_quiet (fail)
          go_wp2_with fail
          go_roundw
          case rel => exact ⟨k + 1, by omega, by go_num, grown_drewN HG.out _⟩
          case measure => simp [intOf]; omega
        · clear HI1 HI2
          have HK1r := hidden (HK15.out.grown (Nat.le_trans hC1 hsz5) HG.out)
          have HK2r := hidden (HK25.out.grown hsz5 HG.out)
          have HBr := hidden (HB5.out.trans (grown_below HG.out HB5.out.size))
          have hszr : w2.heap.size ≤ wr.heap.size := Nat.le_trans hsz5 HG.out.size
          clear HK15 HK25 HB5 HG
          go_wp2_with fail
          refine HK1r.out.endedMap.mono ?_
          rintro e w7 ⟨rfl, rfl⟩
          go_wp2_with fail
          refine HK2r.out.endedMap.mono ?_
          rintro e w7 ⟨rfl, rfl⟩
          have hlen1 : ∀ ty, (Builtin.len_ #[33] ty #[.map (some L1.mE)]).run Try.prog w7 = .ok (.int .i64 (Maps.size Ex)) w7 := fun ty => HK1r.out.ended.len Try.underlying33 ty
          have hlen2 : ∀ ty, (Builtin.len_ #[33] ty #[.map (some L2.mE)]).run Try.prog w7 = .ok (.int .i64 (Maps.size Ex)) w7 := fun ty => HK2r.out.ended.len Try.underlying33 ty
          generalize Maps.size Ex = z at hlen1 hlen2
          have hzz : ((z : Int) != (z : Int)) = false := by simp
          go_wp2_with fail
          clear hlen1 hlen2 hzz hlt hk
          go_loopw [21] (fun i wv => ∃ (j : Nat), j ≤ fs.length ∧ i = .int .i64 j ∧ Hid (w7.grownBy wv none)) (fun i _ => fs.length - (intOf i).toNat)
          case atStart => exact ⟨0, Nat.zero_le _, rfl, World.grownBy.refl _ _⟩
          case round =>
            obtain ⟨j, hj, rfl, HG⟩ := hrel
            by_cases hlj : j < fs.length
            · rcases (HS2.out.below HBr.out).kept HG.out with h | ⟨q, off, rfl, hc⟩
              · rw [h] at hlj; simp at hlj
              obtain ⟨s, hsk⟩ : ∃ s, fs[j]? = some s := ⟨_, List.getElem?_eq_getElem hlj⟩
              obtain ⟨d0, d1, hs, ha⟩ := hc j s hsk
              clear hc hsk
              have hji : (0 : Int) ≤ (j : Int) := by omega
              have hjl : (j : Int) < (fs.length : Int) := by omega
              go_wp2_with fail
              have hqlt := World.block_lt_of_cell? wr _ d0
              simp only at hqlt
              have hne : wr.heap.size ≠ q := by omega
              have hga : wr.grownBy (wr.alloc (Obj.cells #[Value.string s.ini, Value.int IntKind.i64 s.at'] 36)).drew none := grown_trans (World.grownBy_alloc wr _ none) (grown_drew _)
              have HGA := hidden (grown_trans HG.out hga)
              have e0 : (wr.alloc (Obj.cells #[Value.string s.ini, Value.int IntKind.i64 s.at'] 36)).drew.cell? ⟨wr.heap.size, 0, none⟩ = some (.string s.ini) := by go_keep
              have e1 : (wr.alloc (Obj.cells #[Value.string s.ini, Value.int IntKind.i64 s.at'] 36)).drew.cell? ⟨wr.heap.size, 1, none⟩ = some (.int .i64 s.at') := by go_keep
              obtain ⟨bq, hbq⟩ := HBX.out.at (keyD s.ini s.at')
              have hlk1 : ∀ n : Nat, (Instr.lookup 33 (.map (some L1.mE)) (.agg #[.string s.ini, .int .i64 s.at']) false).run Try.prog ((wr.alloc (Obj.cells #[Value.string s.ini, Value.int IntKind.i64 s.at'] 36)).drew.drewN n) = .ok (.bool bq) ((wr.alloc (Obj.cells #[Value.string s.ini, Value.int IntKind.i64 s.at'] 36)).drew.drewN n) := fun n => looked (HK1r.out.ended.kept (grown_drewN HGA.out n) (by simp)) hs ha hbq
              have hlk2 : ∀ n : Nat, (Instr.lookup 33 (.map (some L2.mE)) (.agg #[.string s.ini, .int .i64 s.at']) false).run Try.prog ((wr.alloc (Obj.cells #[Value.string s.ini, Value.int IntKind.i64 s.at'] 36)).drew.drewN n) = .ok (.bool bq) ((wr.alloc (Obj.cells #[Value.string s.ini, Value.int IntKind.i64 s.at'] 36)).drew.drewN n) := fun n => looked (HK2r.out.ended.kept (grown_drewN HGA.out n) (by simp)) hs ha hbq
              have hbb : (bq != bq) = false := by simp
              clear hga hbq
              go_region_held3 (fun w' => w'.cell? ⟨q, off + j * 2, none⟩ = some (.string s.ini) ∧ w'.cell? ⟨q, off + j * 2 + 1, none⟩ = some (.int .i64 s.at')) (go_keep) (fail)
              generalize (wr.alloc (Obj.cells #[Value.string s.ini, Value.int IntKind.i64 s.at'] 36)).drew = wx at HGA e0 e1 hlk1 hlk2 ⊢
              clear d0 d1
              go_wp2_with fail
              go_quiet (fail)
              go_wp2_with fail
              go_roundw
              case rel => exact ⟨j + 1, by omega, by go_num, grown_drewN HGA.out _⟩
              case measure => simp [intOf]; omega
            · go_wp2_with fail
              go_ret
              exact ⟨rfl, HBr.out.trans (grown_below HG.out HBr.out.size)⟩

end Go.Proofs.Qxb6609132a
