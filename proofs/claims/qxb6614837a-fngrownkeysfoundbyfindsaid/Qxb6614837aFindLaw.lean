import Derived.Test.Qxb6614837aSlots
namespace Go.Proofs.Qxb6614837a
open Go.RowKit

theorem Src.kept {w w' : World} {a : Option Addr} {zs : List Int} (h : Src w a zs) (hg : w.grownBy w' none) : Src w' a zs := by
  rcases h with h | ⟨x, h1, h2⟩
  · exact .inl h
  · exact .inr ⟨x, h1, fun i hi => hg.cell (h2 i hi) (by simp)⟩

set_option maxRecDepth 20000 in
set_option maxHeartbeats 1000000 in
theorem law4 (a0 : Option Addr) (cap0 : Nat) (zs : List Int) (o b m : Int) (W : World) (hs : Src W a0 zs) (hnil : a0 = none → cap0 = 0 ∧ zs = []) (hw : ∀ i, i < zs.length → 0 ≤ zs.getD i 0 ∧ zs.getD i 0 < 4294967296) (hb' : b ≤ 9223372036854775807) :
    Calls Try.prog 4 #[.slice a0 zs.length cap0, .int .i32 o, .int .i64 b, .int .u64 m] W fun e w' => e = .returned (.bool true) ∧ Below W.heap.size W w' := by
  obtain ⟨i0, hi, hz0, hz1, hz2⟩ := info_parts Try.info28
  have HS := hidden hs
  have HN := hidden hnil
  have HW := hidden hw
  clear hs hnil hw
  have hne := fun (w : World) (a : Option Addr) (n c n' c' : Nat) => run_neq_slice_nil_any (P := Try.prog) w 22 28 a n c n' c' Try.underlying22
  go_enter Try.func4, Try.ntmps4
  go_wp2_with fail
  refine (bytes10 a0 zs.length cap0 o b m _).mono ?_
  rintro e w' ⟨⟨d, rfl, _⟩, rfl⟩
  cases d
  · go_wp2_with fail
    go_ret
    exact ⟨rfl, Below.refl _ _⟩
  by_cases hl : (4096 : Int) < zs.length
  · go_wp2_with fail
    go_ret
    exact ⟨rfl, Below.refl _ _⟩
  by_cases hb : b < 0
  · go_wp2_with fail
    go_ret
    exact ⟨rfl, Below.refl _ _⟩
  have hm : zs.length ≤ 4096 := by omega
  have hb0 : 0 ≤ b := by omega
  go_wp2_with fail
  refine (distinct_any a0 cap0 zs _ (by omega) HS.out).mono ?_
  rintro e w1 ⟨⟨d, rfl, hd⟩, hg1⟩
  cases d
  · go_wp2_with fail
    go_ret
    exact ⟨rfl, grown_below hg1 (Nat.le_refl _)⟩
  have HD := hidden (hd rfl)
  clear hd
  go_wp2_with fail
  refine (tags_any a0 cap0 zs o b m _ hb0 hb' (by omega) (HS.out.kept hg1) HW.out).mono ?_
  rintro e w2 ⟨⟨d, rfl, hd⟩, rfl⟩
  cases d
  · go_wp2_with fail
    go_ret
    exact ⟨rfl, grown_below hg1 (Nat.le_refl _)⟩
  have HF := hidden (hd rfl)
  clear hd
  have HG1 := hidden hg1
  have HS1 := hidden (HS.out.kept hg1)
  clear hg1 HS
  cases a0 with
  | none =>
    obtain ⟨rfl, rfl⟩ := HN.out rfl
    go_wp2_with fail
    refine (zzgrown_walk none 0 [] o b m _ hb0 (by simp) (.inl ⟨rfl, rfl, rfl⟩)).mono ?_
    rintro e w3 ⟨tb, g, pos, rfl, hO, hR, hg3⟩
    have hlen := hR.len
    have : g = [] := List.length_eq_zero_iff.1 (by simpa using hlen)
    subst this
    have HB := hidden (grown_below (grown_trans HG1.out hg3) (Nat.le_refl _))
    clear hlen hR hO hg3 HW HF HD HS1 HN HG1
    go_wp2_with (go_at_call 8; refine (count_any _ _ [] _ (by simp) (.inl rfl)).mono ?_; rintro e w' ⟨rfl, rfl⟩)
    go_loop [11] (fun i => i = .int .i64 0) (fun _ => 0)
    case atStart => exact rfl
    case round =>
      subst hrel
      go_wp2_with fail
      go_ret
      exact ⟨rfl, HB.out⟩
  | some x =>
    have hc : Hid (∀ i, i < zs.length → w2.cell? (x.add i) = some (.int .u32 (zs.getD i 0))) := by
      rcases HS1.out with h | ⟨y, h, hc⟩
      · intro i hi; rw [h] at hi; simp at hi
      · cases h; exact hc
    clear HS1 HN
    go_wp2_with (at_make; refine wpList_make_full _ rfl _ _ 22 rfl w'.heap.size 28 i0 (.int .u32 0) 1 Try.underlying22 hi hz0 hz1 .i64 .i64 _ _ zs.length rfl rfl rfl rfl (by rw [hz2]; omega) (by unfold maxLen; omega) HG1.out.size ?_; intro w3 hown3 hgr3; obtain ⟨w4, hcp, hO4, hg4⟩ := copy_run (x := x) (cap := cap0) rfl (owns_made hown3) (fun i hi => hgr3.cell (hc.out i hi) (by simp)); have HO4 := hidden hO4; have HB4 := hidden ((grown_below (grown_trans HG1.out hgr3) (Nat.le_refl _)).grown hg4 (Nat.le_trans HG1.out.size hgr3.size) (fun k e => by cases e; exact HG1.out.size)); clear hO4 hg4 hown3 hgr3)
    generalize w2.heap.size = tz at HO4 ⊢
    clear hcp hc HG1 hz0 hz1 hz2 hi hne
    refine (zzgrown_walk (some ⟨tz, 0, none⟩) zs.length zs o b m _ hb0 hm (.inr ⟨tz, rfl, HO4.out.lies⟩)).mono ?_
    rintro e w5 ⟨tb, g, pos, rfl, hO, hR, hg5⟩
    have HO := hidden hO
    have HR := hidden hR
    have HZ := hidden (HO4.out.lies.grown hg5)
    have HB5 := hidden (HB4.out.grown hg5 HB4.out.size (fun k e => by cases e))
    have hlen := hR.len
    have hcnt : g.countP (· != 0) = zs.countP (· != 0) := by rw [hR.count, List.take_length]
    have hli : ((g.length : Int) != 2 * (zs.length : Int)) = false := by simp; omega
    have HC := hidden hcnt
    have hgl : g.length ≤ 8192 := by omega
    clear hO hR hg5 HO4 HB4 hcnt hlen
    go_wp2_with fail
    refine (count_any _ _ g _ (by omega) HO.out.lies.src).mono ?_
    rintro e w6 ⟨rfl, rfl⟩
    go_wp2_with fail
    refine (count_any _ _ zs _ (by omega) HZ.out.src).mono ?_
    rintro e w7 ⟨rfl, rfl⟩
    rw [HC.out]
    clear HC
    generalize zs.countP (· != 0) = c
    have hcc : ((c : Int) != (c : Int)) = false := by simp
    go_wp2_with fail
    go_loopw [11] (fun i wr => ∃ (k : Nat), k ≤ zs.length ∧ i = .int .i64 k ∧ Hid (w7.grownBy wr none)) (fun i _ => zs.length - (intOf i).toNat)
    case atStart => exact ⟨0, Nat.zero_le _, rfl, World.grownBy.refl _ _⟩
    case round =>
      obtain ⟨k, hk, rfl, HG⟩ := hrel
      by_cases hlt : k < zs.length
      · have hcell := HG.out.cell (HZ.out k hlt) (by simp)
        by_cases hz : zs.getD k 0 = 0
        · rw [hz] at hcell
          clear hz
          go_wp2_with fail
          go_roundw
          case rel => exact ⟨k + 1, by omega, by go_num, HG⟩
          case measure => simp [intOf]; omega
        · obtain ⟨H, e1, e2, e3, e4, e5, e6⟩ := found HR.out HD.out HW.out HF.out hlt hz
          have hn : (zs.getD k 0 == 0) = false := by rw [beq_eq_false_iff_ne]; exact hz
          have HE1 := hidden e1
          have HE5 := hidden e5
          have HE6 := hidden e6
          have HE4 := hidden e4
          clear hz e1 e4 e5 e6
          generalize pos k = q at e3 HE4 HE5 HE6
          generalize zs.getD k 0 = s at hcell hn HE1 HE4 HE5 HE6
          have HGc := hidden (HO.out.lies.grown HG.out)
          go_wp2_with fail
          refine (span_any o b s hb0 hb' _).mono ?_
          rintro e w8 ⟨rfl, rfl⟩
          go_wp2_with fail
          refine (hash_any _ m _).mono ?_
          rintro e w9 ⟨rfl, rfl⟩
          rw [HE1.out]
          go_wp2_with fail
          refine (zzfind_walk tb g.length g o b _ H q _ hb0 e2 (by omega) e3 HGc.out HE5.out HE6.out).mono ?_
          rintro e w10 ⟨rfl, hg10⟩
          have hq1 : (q : Int) < (g.length : Int) := by omega
          have hq0 : (0 : Int) ≤ (q : Int) := by omega
          have hcq := hg10.cell (HGc.out q e3) (by simp)
          rw [HE4.out] at hcq
          have hss : (s != s) = false := by simp
          have HG10 := hidden (grown_trans HG.out hg10)
          clear HE1 HE4 HE5 HE6 hg10 HG hcell
          go_wp2_with fail
          go_roundw
          case rel => exact ⟨k + 1, by omega, by go_num, HG10⟩
          case measure => simp [intOf]; omega
      · go_wp2_with fail
        go_ret
        exact ⟨rfl, HB5.out.grown HG.out HB5.out.size (fun k e => by cases e)⟩

end Go.Proofs.Qxb6614837a
