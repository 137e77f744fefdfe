import Derived.Test.Qxb6614837aSlots
namespace Go.Proofs.Qxb6614837a
open Go.RowKit

theorem Src.held {w w' : World} {a : Option Addr} {zs : List Int} (h : Src w a zs) (hg : w.grownBy w' none) : Src w' a zs := by
  rcases h with h | ⟨x, h1, h2⟩
  · exact .inl h
  · exact .inr ⟨x, h1, fun i hi => hg.cell (h2 i hi) (by simp)⟩

theorem Lies.below {w w' : World} {tb : Nat} {g : List Int} (h : Lies w tb g) (hb : Below w.heap.size w w') : Lies w' tb g := fun i hi => by
  have hc := h i hi
  exact (hb.cell (by exact World.block_lt_of_cell? w _ hc)).trans hc

/-- What loop two has laid: the places and the ranks of the first k slots. -/
structure Laid (zs : List Int) (ps : Nat → Nat) (n k : Nat) (R Pl : List Int) : Prop where
  lr : R.length = n
  lp : Pl.length = zs.length
  at' : ∀ j, j < k → zs.getD j 0 ≠ 0 → Pl.getD j 0 = (ps j : Int)
  rk : ∀ j, j < k → zs.getD j 0 ≠ 0 → R.getD (ps j) 0 = (j : Int)

theorem Laid.skip {zs : List Int} {ps : Nat → Nat} {n k : Nat} {R Pl : List Int} (h : Laid zs ps n k R Pl) (hk : k < zs.length) (hz : zs.getD k 0 = 0) (x : Int) : Laid zs ps n (k + 1) R (Pl.set k x) where
  lr := h.lr
  lp := by simp [h.lp]
  at' := fun j hj hn => by
    have hjk : j < k := by
      rcases Nat.lt_or_ge j k with h' | h'
      · exact h'
      · have : j = k := by omega
        subst this; exact absurd hz hn
    rw [getD_set (by rw [h.lp]; exact hk), if_neg (by omega)]
    exact h.at' j hjk hn
  rk := fun j hj hn => by
    have hjk : j < k := by
      rcases Nat.lt_or_ge j k with h' | h'
      · exact h'
      · have : j = k := by omega
        subst this; exact absurd hz hn
    exact h.rk j hjk hn

theorem Laid.next {o b m : Int} {zs g : List Int} {ps : Nat → Nat} {k : Nat} {R Pl : List Int} (hR : Grown (homeOf o b m (2 * zs.length)) zs zs.length g ps) (hd : Distinct zs) (h : Laid zs ps (2 * zs.length) k R Pl) (hk : k < zs.length) (hz : zs.getD k 0 ≠ 0) :
    Laid zs ps (2 * zs.length) (k + 1) (R.set (ps k) k) ((Pl.set k (-1)).set k (ps k)) where
  lr := by simp [h.lr]
  lp := by simp [h.lp]
  at' := fun j hj hn => by
    rw [getD_set (by simp [h.lp]; exact hk), getD_set (by rw [h.lp]; exact hk)]
    by_cases e : j = k
    · rw [if_pos e, e]
    · rw [if_neg e, if_neg e]
      exact h.at' j (by omega) hn
  rk := fun j hj hn => by
    have hp := (hR.put k hk hz).1
    rw [hR.len] at hp
    rw [getD_set (by rw [h.lr]; exact hp)]
    by_cases e : j = k
    · rw [if_pos (by rw [e]), e]
    · rw [if_neg]
      · exact h.rk j (by omega) hn
      · intro e'
        have hj' : j < zs.length := by omega
        have h1 := (hR.put j hj' hn).2
        have h2 := (hR.put k hk hz).2
        rw [e', h2] at h1
        exact e (hd.inj hj' hk hn h1.symm)

set_option maxRecDepth 20000 in
set_option maxHeartbeats 1000000 in
theorem law3 (a0 : Option Addr) (cap0 : Nat) (zs : List Int) (o b m : Int) (W : World) (hs : Src W a0 zs) (hnil : a0 = none → cap0 = 0 ∧ zs = []) (_hw : ∀ i, i < zs.length → 0 ≤ zs.getD i 0 ∧ zs.getD i 0 < 4294967296) (hb' : b ≤ 9223372036854775807) :
    Calls Try.prog 3 #[.slice a0 zs.length cap0, .int .i32 o, .int .i64 b, .int .u64 m] W fun e w' => e = .returned (.bool true) ∧ Below W.heap.size W w' := by
  obtain ⟨i0, hi, hz0, hz1, hz2⟩ := info_parts Try.info28
  obtain ⟨j0, hj, hy0, hy1, hy2⟩ := info_parts Try.info3
  have HS := hidden hs
  have HN := hidden hnil
  clear hs hnil
  have hne := fun (w : World) (a : Option Addr) (n c n' c' : Nat) => run_neq_slice_nil_any (P := Try.prog) w 22 28 a n c n' c' Try.underlying22
  go_enter Try.func3, Try.ntmps3
  go_wp2_with fail
  refine (bytes5 a0 zs.length cap0 o b m _).mono ?_
  rintro e w' ⟨⟨d, rfl, _⟩, rfl⟩
  cases d
  · go_wp2_with fail
    go_ret
    exact ⟨rfl, Below.refl _ _⟩
  by_cases hl : (4096 : Int) < zs.length
  · go_wp2_with fail
    go_ret
    exact ⟨rfl, Below.refl _ _⟩
  by_cases hb : b < 0
  · go_wp2_with fail
    go_ret
    exact ⟨rfl, Below.refl _ _⟩
  have hm : zs.length ≤ 4096 := by omega
  have hb0 : 0 ≤ b := by omega
  go_wp2_with fail
  refine (distinct_any a0 cap0 zs _ (by omega) HS.out).mono ?_
  rintro e w1 ⟨⟨d, rfl, hd⟩, hg1⟩
  cases d
  · go_wp2_with fail
    go_ret
    exact ⟨rfl, grown_below hg1 (Nat.le_refl _)⟩
  have HD := hidden (hd rfl)
  clear hd
  have HG1 := hidden hg1
  have HS1 := hidden (HS.out.held hg1)
  clear hg1 HS
  cases a0 with
  | none =>
    obtain ⟨rfl, rfl⟩ := HN.out rfl
    go_wp2_with fail
    refine (zzgrown_walk none 0 [] o b m _ hb0 (by simp) (.inl ⟨rfl, rfl, rfl⟩)).mono ?_
    rintro e w3 ⟨tb, g, pos, rfl, hO, hR, hg3⟩
    have hlen := hR.len
    have : g = [] := List.length_eq_zero_iff.1 (by simpa using hlen)
    subst this
    have HB := hidden (grown_below (grown_trans HG1.out hg3) (Nat.le_refl _))
    clear hlen hR hO hg3 HD HS1 HN HG1
    go_wp2_with (at_make; refine wpList_make_full _ rfl _ _ 27 rfl w3.heap.size 3 j0 (.int .i64 0) 1 Try.underlying27 hj hy0 hy1 .i64 .i64 _ _ 0 rfl rfl rfl rfl (by rw [hy2]; omega) (by unfold maxLen; omega) (Nat.le_refl _) ?_; intro w4 hown4 hgr4)
    go_loop [13] (fun i => i = .int .i64 0) (fun _ => 0)
    case atStart => exact rfl
    case round =>
      subst hrel
      clear hown4
      go_wp2_with (at_make; refine wpList_make_full _ rfl _ _ 27 rfl w4.heap.size 3 j0 (.int .i64 0) 1 Try.underlying27 hj hy0 hy1 .i64 .i64 _ _ 0 rfl rfl rfl rfl (by rw [hy2]; omega) (by unfold maxLen; omega) (Nat.le_refl _) ?_; intro w5 hown5 hgr5)
      go_loop [15, 16] (fun c i => c = .int .i64 0 ∧ i = .int .i64 0) (fun _ _ => 0)
      case atStart => exact ⟨rfl, rfl⟩
      case round =>
        obtain ⟨rfl, rfl⟩ := hrel
        have HB5 := hidden (HB.out.trans (grown_below (grown_trans hgr4 hgr5) HB.out.size))
        clear hown5 hgr4 hgr5 HB
        go_wp2_with (go_at_call 8; refine (count_any _ _ [] _ (by simp) (.inl rfl)).mono ?_; rintro e w' ⟨rfl, rfl⟩)
        go_loop [18] (fun i => i = .int .i64 0) (fun _ => 0)
        case atStart => exact rfl
        case round =>
          subst hrel
          go_wp2_with fail
          go_ret
          exact ⟨rfl, HB5.out⟩
  | some x =>
    have hc : Hid (∀ i, i < zs.length → w1.cell? (x.add i) = some (.int .u32 (zs.getD i 0))) := by
      rcases HS1.out with h | ⟨y, h, hc⟩
      · intro i hi; rw [h] at hi; simp at hi
      · cases h; exact hc
    clear HS1 HN
    go_wp2_with (at_make; refine wpList_make_full _ rfl _ _ 22 rfl w'.heap.size 28 i0 (.int .u32 0) 1 Try.underlying22 hi hz0 hz1 .i64 .i64 _ _ zs.length rfl rfl rfl rfl (by rw [hz2]; omega) (by unfold maxLen; omega) HG1.out.size ?_; intro w3 hown3 hgr3; obtain ⟨w4, hcp, hO4, hg4⟩ := copy_run (x := x) (cap := cap0) rfl (owns_made hown3) (fun i hi => hgr3.cell (hc.out i hi) (by simp)); have HO4 := hidden hO4; have HB4 := hidden ((grown_below (grown_trans HG1.out hgr3) (Nat.le_refl _)).grown hg4 (Nat.le_trans HG1.out.size hgr3.size) (fun k e => by cases e; exact HG1.out.size)); clear hO4 hg4 hown3 hgr3)
    generalize w1.heap.size = tz at HO4 ⊢
    clear hcp hc HG1 hz0 hz1 hz2 hi hne
    refine (zzgrown_walk (some ⟨tz, 0, none⟩) zs.length zs o b m _ hb0 hm (.inr ⟨tz, rfl, HO4.out.lies⟩)).mono ?_
    rintro e w5 ⟨tb, g, ps, rfl, hO, hR, hg5⟩
    have HO := hidden hO.lies
    have HR := hidden hR
    have HZ := hidden (HO4.out.lies.grown hg5)
    have HB5 := hidden (HB4.out.grown hg5 HB4.out.size (fun k e => by cases e))
    have HLen := hidden hR.len
    have hcnt : g.countP (· != 0) = zs.countP (· != 0) := by rw [hR.count, List.take_length]
    have hli : ((g.length : Int) != 2 * (zs.length : Int)) = false := by have := hR.len; simp; omega
    have hgl : g.length ≤ 8192 := by have := hR.len; omega
    have HC := hidden hcnt
    clear hO hR hg5 HO4 HB4 hcnt
    go_wp2_with (at_make; refine wpList_make_full _ rfl _ _ 27 rfl w5.heap.size 3 j0 (.int .i64 0) 1 Try.underlying27 hj hy0 hy1 .i64 .i64 _ _ (2 * zs.length) rfl rfl (by omega) (by omega) (by rw [hy2]; omega) (by unfold maxLen; omega) (Nat.le_refl _) ?_; intro w6 hown6 hgr6)
    have HO6 := hidden (owns_made hown6)
    have HB6 := hidden (grown_below hgr6 (Nat.le_refl _))
    clear hown6 hgr6
    generalize htr : w5.heap.size = tr at HO6 ⊢
    have HTR := hidden htr
    clear htr
    go_loopw [13] (fun i wr => ∃ (k : Nat) (R : List Int), k ≤ 2 * zs.length ∧ i = .int .i64 k ∧ Hid (R.length = 2 * zs.length) ∧ Hid (Owns wr tr 3 .i64 tr R) ∧ Hid (Below w5.heap.size w5 wr)) (fun i _ => 2 * zs.length - (intOf i).toNat)
    case atStart => exact ⟨0, _, Nat.zero_le _, rfl, by show _ = _; simp, HO6, HB6⟩
    case round =>
      clear HO6 HB6
      obtain ⟨k, R, hk, rfl, HRl, HO6, HB6⟩ := hrel
      by_cases hlt : k < 2 * zs.length
      · have hat := HO6.out.cell (i := k) (by rw [HRl.out]; exact hlt)
        have hfz := HO6.out.frozen k
        have ST := hidden (HO6.out.put k (-1))
        have HBn : Hid (Below w5.heap.size w5 (wr.setCell ⟨tr, k, none⟩ (.int .i64 (-1)))) := HB6.out.setCell (by rw [HTR.out]; exact Nat.le_refl _) _
        have HRn : Hid ((R.set k (-1)).length = 2 * zs.length) := by show _ = _; rw [List.length_set]; exact HRl.out
        generalize R.getD k 0 = y0 at hat
        have hk0 : (0 : Int) ≤ (k : Int) := by omega
        have hk1 : (k : Int) < 2 * (zs.length : Int) := by omega
        clear HO6 HB6
        go_wp2_with fail
        go_roundw
        case rel => exact ⟨k + 1, _, by omega, by go_num, HRn, ST, HBn⟩
        case measure => simp [intOf]; omega
      · go_wp2_with (at_make; refine wpList_make_full _ rfl _ _ 27 rfl tr 3 j0 (.int .i64 0) 1 Try.underlying27 hj hy0 hy1 .i64 .i64 _ _ zs.length rfl rfl rfl rfl (by rw [hy2]; omega) (by unfold maxLen; omega) (by have := HB6.out.size; rw [HTR.out] at this; exact this) ?_; intro w8 hown8 hgr8)
        have HP8 := hidden (owns_made hown8)
        have HR8 := hidden (HO6.out.kept hgr8)
        have HB8 := hidden (HB6.out.trans (grown_below hgr8 HB6.out.size))
        have htp : tr ≠ wr.heap.size := by have := HO6.out.lt; omega
        have hLd : Laid zs ps (2 * zs.length) 0 R (List.replicate zs.length 0) := ⟨HRl.out, by simp, fun j h => absurd h (Nat.not_lt_zero _), fun j h => absurd h (Nat.not_lt_zero _)⟩
        have HLd := hidden hLd
        clear hown8 hgr8 hLd HRl HO6 HB6
        generalize wr.heap.size = tp at HP8 htp ⊢
        go_loopw [15, 16] (fun c i wr => ∃ (k : Nat) (R Pl : List Int), k ≤ zs.length ∧ i = .int .i64 k ∧ c = .int .i64 ((zs.take k).countP (· != 0) : Nat) ∧ Hid (Laid zs ps (2 * zs.length) k R Pl) ∧ Hid (Owns wr tr 3 .i64 tr R) ∧ Hid (Owns wr tr 3 .i64 tp Pl) ∧ Hid (Below w5.heap.size w5 wr)) (fun _ i _ => zs.length - (intOf i).toNat)
        case atStart => exact ⟨0, R, _, Nat.zero_le _, rfl, by simp, HLd, HR8, HP8, HB8⟩
        case round =>
          clear HLd HR8 HP8 HB8 hk hlt
          obtain ⟨k, R, Pl, hk, rfl, rfl, HLd, HRr, HPr, HBr⟩ := hrel
          by_cases hlt : k < zs.length
          · have hatP := HPr.out.cell (i := k) (by rw [HLd.out.lp]; exact hlt)
            have hfzP := HPr.out.frozen k
            have HP9 := hidden (HPr.out.put k (-1))
            have HB9 : Hid (Below w5.heap.size w5 (wr.setCell ⟨tp, k, none⟩ (.int .i64 (-1)))) := HBr.out.setCell (by rw [HTR.out]; exact HPr.out.lt.1) _
            have HR9 : Hid (Owns (wr.setCell ⟨tp, k, none⟩ (.int .i64 (-1))) tr 3 .i64 tr R) := HRr.out.other htp _
            have hc9 := (HZ.out.below HB9.out) k hlt
            have hc8 := (HZ.out.below HBr.out) k hlt
            have htz : tp ≠ tz := by
              have h1 := World.block_lt_of_cell? w5 _ (HZ.out k hlt)
              have h2 := HPr.out.lt.1
              have h3 := HTR.out
              simp only at h1
              omega
            have hcn := hidden (count_succ hlt)
            have hle : (zs.take k).countP (· != 0) ≤ 4096 := Nat.le_trans List.countP_le_length (by simp; omega)
            generalize (zs.take k).countP (· != 0) = c at hle hcn
            generalize hc' : (zs.take (k + 1)).countP (· != 0) = c' at hcn
            have HCn := hidden hc'
            clear hc'
            by_cases hz : zs.getD k 0 = 0
            · rw [if_pos hz] at hcn
              have HL9 := hidden (HLd.out.skip hlt hz (-1))
              rw [hz] at hc8 hc9
              clear hz HLd HRr HPr HBr
              generalize Pl.getD k 0 = y0 at hatP
              go_wp2_with fail
              go_roundw
              case rel => exact ⟨k + 1, R, _, by omega, by go_num, by rw [HCn.out, hcn.out]; rfl, HL9, HR9, HP9, HB9⟩
              case measure => simp [intOf]; omega
            · rw [if_neg hz] at hcn
              have HL9 := hidden (Laid.next HR.out HD.out HLd.out hlt hz)
              have hput := HR.out.put k hlt hz
              have hpq : ps k < 2 * zs.length := by have := HLen.out; omega
              have HU : Hid (∀ r, r < g.length → g.getD r 0 = zs.getD k 0 → r = ps k) := fun r hr e => HR.out.uniq HD.out hlt hz hr e
              have HPut := hidden hput.2
              have hlp := HLd.out.lp
              have hlr := HLd.out.lr
              have HLp := hidden hlp
              have HLr := hidden hlr
              have hn : (zs.getD k 0 == 0) = false := by rw [beq_eq_false_iff_ne]; exact hz
              clear hput hlp hlr hz HLd HRr HPr HBr
              generalize Pl.getD k 0 = y0 at hatP
              generalize hs0 : zs.getD k 0 = s at hc8 hc9 hn HU HPut
              have HS0 := hidden hs0
              clear hs0
              go_wp2_with fail
              generalize wr.setCell ⟨tp, k, none⟩ (.int .i64 (-1)) = w9 at HP9 HB9 HR9 hc9 ⊢
              generalize ps k = p at HL9 HU HPut hpq
              clear hatP hfzP hc8 hc9
              go_loopw [17] (fun i wv => ∃ q : Nat, q ≤ p ∧ i = .int .i64 q ∧ Hid (Owns wv tr 3 .i64 tr R) ∧ Hid (Owns wv tr 3 .i64 tp (Pl.set k (-1))) ∧ Hid (Below w5.heap.size w5 wv)) (fun i _ => p - (intOf i).toNat)
              case atStart => exact ⟨0, Nat.zero_le _, rfl, HR9, HP9, HB9⟩
              case round =>
                clear HR9 HP9 HB9
                obtain ⟨q, hq, rfl, HR9, HP9, HB9⟩ := hrel
                have hqn : q < g.length := by have := HLen.out; omega
                have hq0 : (0 : Int) ≤ (q : Int) := by omega
                have hq1 : (q : Int) < (g.length : Int) := by omega
                have hq2 : (q : Int) < 2 * (zs.length : Int) := by omega
                have hk0 : (0 : Int) ≤ (k : Int) := by omega
                have hk1 : (k : Int) < (zs.length : Int) := by omega
                have d1 := (HO.out.below HB9.out) q hqn
                have d2 := (HZ.out.below HB9.out) k hlt
                rw [HS0.out] at d2
                by_cases hqp : q = p
                · subst hqp
                  rw [HPut.out] at d1
                  have hss : (s == s) = true := by simp
                  go_wp2_with fail
                  go_quiet (fail)
                  have HRd := hidden (HR9.out.kept (grown_drewN (World.grownBy.refl wr none) nq))
                  have HPd := hidden (HP9.out.kept (grown_drewN (World.grownBy.refl wr none) nq))
                  have HBd := hidden (HB9.out.trans (grown_below (grown_drewN (World.grownBy.refl wr none) nq) HB9.out.size))
                  clear HR9 HP9 HB9 d1 d2
                  generalize wr.drewN nq = wd at HRd HPd HBd ⊢
                  have hqR : q < R.length := by rw [HLr.out]; exact hpq
                  have hkP : k < (Pl.set k (-1)).length := by rw [List.length_set, HLp.out]; exact hlt
                  have hatP := HPd.out.cell hkP
                  have hfzP := HPd.out.frozen k
                  have hatR := HRd.out.cell hqR
                  have hfzR := HRd.out.frozen q
                  have htp' : tp ≠ tr := Ne.symm htp
                  have HR1 := hidden (HRd.out.other (a := ⟨tp, k, none⟩) htp (.int .i64 q))
                  have hatR1 := HR1.out.cell hqR
                  have hfzR1 := HR1.out.frozen q
                  have HR2 := hidden (HR1.out.put q k)
                  have HP2 := hidden ((HPd.out.put k q).other (a := ⟨tr, q, none⟩) htp' (.int .i64 k))
                  have HB2 : Hid (Below w5.heap.size w5 ((wd.setCell ⟨tp, k, none⟩ (.int .i64 q)).setCell ⟨tr, q, none⟩ (.int .i64 k))) := (HBd.out.setCell (by rw [HTR.out]; exact HPd.out.lt.1) _).setCell (by rw [HTR.out]; exact HRd.out.lt.1) _
                  generalize R.getD q 0 = r0 at hatR hatR1
                  generalize (Pl.set k (-1)).getD k 0 = p0 at hatP
                  clear HRd HPd HBd HR1 hqR hkP
                  go_wp2_with fail
                  go_roundw
                  case rel => exact ⟨k + 1, _, _, by omega, by go_num, by rw [HCn.out, hcn.out]; go_num, HL9, HR2, HP2, HB2⟩
                  case measure => simp [intOf]; omega
                · have hss : (g.getD q 0 == s) = false := by rw [beq_eq_false_iff_ne]; exact fun e => hqp (HU.out q hqn e)
                  generalize g.getD q 0 = t at d1 hss
                  go_wp2_with fail
                  go_quiet (fail)
                  go_wp2_with fail
                  go_roundw
                  case rel => exact ⟨q + 1, by omega, by go_num, HR9.out.kept (grown_drewN (World.grownBy.refl _ _) _), HP9.out.kept (grown_drewN (World.grownBy.refl _ _) _), HB9.out.trans (grown_below (grown_drewN (World.grownBy.refl _ _) _) HB9.out.size)⟩
                  case measure => simp [intOf]; omega
          · have e : k = zs.length := by omega
            subst e
            rw [List.take_length]
            generalize zs.countP (· != 0) = c at HC ⊢
            go_wp2_with fail
            refine (count_any _ _ g _ (by omega) ((HO.out.below HBr.out).src)).mono ?_
            rintro e w10 ⟨rfl, rfl⟩
            rw [HC.out]
            clear HC
            have hcc : ((c : Int) != (c : Int)) = false := by simp
            go_wp2_with fail
            go_loop [18] (fun i => ∃ j : Nat, j ≤ zs.length ∧ i = .int .i64 j) (fun i => zs.length - (intOf i).toNat)
            case atStart => exact ⟨0, Nat.zero_le _, rfl⟩
            case round =>
              obtain ⟨j, hj, rfl⟩ := hrel
              by_cases hlj : j < zs.length
              · have hcell := (HZ.out.below HBr.out) j hlj
                by_cases hz : zs.getD j 0 = 0
                · rw [hz] at hcell
                  clear hz
                  go_wp2_with fail
                  go_round
                  case rel => exact ⟨j + 1, by omega, by go_num⟩
                  case measure => simp [intOf]; omega
                · have hpj := (HR.out.put j hlj hz).1
                  rw [HLen.out] at hpj
                  have hatP := HPr.out.cell (i := j) (by rw [HLd.out.lp]; exact hlj)
                  rw [HLd.out.at' j hlj hz] at hatP
                  have HRank : Hid (∀ i, i < j → zs.getD i 0 ≠ 0 → w10.cell? ⟨tr, ps i, none⟩ = some (.int .i64 i)) := fun i hi hn => by
                    have h1 := (HR.out.put i (by omega) hn).1
                    rw [HLen.out] at h1
                    have h2 := HRr.out.cell (i := ps i) (by rw [HLd.out.lr]; exact h1)
                    rw [HLd.out.rk i (by omega) hn] at h2
                    exact h2
                  have hpath := HR.out.path j hlj hz
                  rw [HLen.out] at hpath
                  have HPath := hidden hpath
                  have hhome : homeOf o b m (2 * zs.length) (zs.getD j 0) < 2 * zs.length := by
                    obtain ⟨H, e, hH⟩ := hash_nat (keyP o b (zs.getD j 0)) m
                    unfold homeOf homeP
                    rw [e]
                    exact home_lt hH (by omega)
                  have HHome : Hid (Calls Try.prog 9 #[.int .u32 (zs.getD j 0), .int .i32 o, .int .i64 b, .int .u64 m, .int .i64 (2 * (zs.length : Int))] w10 fun e w' => e = .returned (.int .i64 (homeOf o b m (2 * zs.length) (zs.getD j 0) : Nat)) ∧ w' = w10) := by
                    have h := home_any o b (zs.getD j 0) m (2 * zs.length) hb0 hb' (by omega) w10
                    have e : ((2 * zs.length : Nat) : Int) = 2 * (zs.length : Int) := by omega
                    rw [e] at h
                    exact h
                  have hn : (zs.getD j 0 == 0) = false := by rw [beq_eq_false_iff_ne]; exact hz
                  clear hpath hz
                  generalize homeOf o b m (2 * zs.length) (zs.getD j 0) = h0 at HHome hhome HPath
                  generalize ps j = p at hatP hpj HPath
                  generalize zs.getD j 0 = s at hcell HHome hn
                  go_wp2_with fail
                  refine HHome.out.mono ?_
                  rintro e w11 ⟨rfl, rfl⟩
                  go_wp2_with fail
                  go_loop [19] (fun i => ∃ q : Nat, q < 2 * zs.length ∧ i = .int .i64 q ∧ Hid (∀ r, r < 2 * zs.length → dist (2 * zs.length) q r < dist (2 * zs.length) q p → ∃ i, i < j ∧ zs.getD i 0 ≠ 0 ∧ ps i = r)) (fun i => dist (2 * zs.length) (intOf i).toNat p)
                  case atStart => exact ⟨h0, hhome, rfl, HPath⟩
                  case round =>
                    clear HHome HPath hhome
                    obtain ⟨q, hq, rfl, HPath⟩ := hrel
                    by_cases hqp : q = p
                    · subst hqp
                      have hqq : ((q : Int) != (q : Int)) = false := by simp
                      go_wp2_with fail
                      go_round
                      case rel => exact ⟨j + 1, by omega, by go_num⟩
                      case measure => simp [intOf]; omega
                    · obtain ⟨i, hi1, hi2, hi3⟩ := HPath.out q hq (by rw [dist_self]; exact dist_pos hq hqp)
                      have hatR := HRank.out i hi1 hi2
                      rw [hi3] at hatR
                      have HNx : Hid (∀ r, r < 2 * zs.length → dist (2 * zs.length) (nxt (2 * zs.length) q) r < dist (2 * zs.length) (nxt (2 * zs.length) q) p → ∃ i, i < j ∧ zs.getD i 0 ≠ 0 ∧ ps i = r) := fun r hr hd => HPath.out r hr (dist_nxt_lt hq hpj hr hqp hd)
                      have HM := hidden (dist_nxt hq hpj hqp)
                      have hnx := nxt_lt hq
                      have hqne : ((q : Int) != (p : Int)) = true := by rw [bne_iff_ne]; omega
                      have hi0 : ¬ ((i : Int) < 0) := by omega
                      have hij : ¬ ((j : Int) < (i : Int)) := by omega
                      have hq0 : (0 : Int) ≤ (q : Int) := by omega
                      have hq2 : (q : Int) < 2 * (zs.length : Int) := by omega
                      clear HPath hi2 hi3
                      by_cases hke : q + 1 = 2 * zs.length
                      · have hkb : (((q : Int) + 1) == 2 * (zs.length : Int)) = true := by rw [beq_iff_eq]; omega
                        have hx : nxt (2 * zs.length) q = 0 := by unfold nxt; rw [if_pos hke]
                        rw [hx] at HNx HM hnx
                        clear hke
                        go_wp2_with fail
                        go_round
                        case rel => exact ⟨0, hnx, rfl, HNx⟩
                        case measure => simp [intOf]; have := HM.out; omega
                      · have hkb : (((q : Int) + 1) == 2 * (zs.length : Int)) = false := by rw [beq_eq_false_iff_ne]; omega
                        have hx : nxt (2 * zs.length) q = q + 1 := by unfold nxt; rw [if_neg hke]
                        rw [hx] at HNx HM hnx
                        clear hke
                        go_wp2_with fail
                        go_round
                        case rel => exact ⟨q + 1, hnx, by go_num, HNx⟩
                        case measure => simp [intOf]; have := HM.out; exact (by omega)
              · go_wp2_with fail
                go_ret
                exact ⟨rfl, HB5.out.trans ((HBr.out).mono HB5.out.size)⟩

end Go.Proofs.Qxb6614837a
