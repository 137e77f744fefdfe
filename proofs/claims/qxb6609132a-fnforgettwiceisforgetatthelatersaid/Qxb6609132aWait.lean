import Derived.Test.Qxb6609132aInv
import Derived.Deep.RegionHeld3
namespace Go.Proofs.Qxb6609132a
open Go.RowKit Go.Maps

section
variable {B : Nat} {L : Lay} {tick : Int} {ls : List ByteArray} {N : Nat} {f : ByteArray → Option Rec} {bg : List Int} {E : DataW Value} {fg : Int}

theorem Inv.sizeB {w : World} (h : Inv B L tick ls N f bg E fg w) : B ≤ w.heap.size := by
  obtain ⟨bv, s1, _⟩ := h.site
  have := lt_of_block s1
  have := h.lay.1
  omega

set_option maxHeartbeats 400000 in
theorem done_any (w : World) (h : Inv B L tick ls N f bg E fg w) (p : ByteArray) (hp : p.size ≤ maxLen) :
    Calls Try.prog 28 #[.pointer (some ⟨L.sb, 0, none⟩), .string p] w fun e w' => e = .returned (.tuple #[]) ∧ Inv B L tick ls N (upd f p none) bg E fg w' ∧ Below B w w' ∧ RowsKept w w' := by
  obtain ⟨bv, s1, _⟩ := h.site
  have c4 : w.cell? ⟨L.sb, 4, none⟩ = some (.map (some L.mW)) := cell_of_block s1 rfl
  obtain ⟨w1, hrun, hI, hg⟩ := h.del hp 0
  have HB : Hid (Below B w w1) := (Below.refl B w).grown hg h.sizeB (fun k e => by injection e with e; have := h.lay.2.2.1; omega)
  have HI := hidden hI
  obtain ⟨D0, d0, _⟩ := h.waits
  have HKR := hidden (rowsKept_map hg (notRow_owns d0))
  clear s1 hI hg h d0
  go_enter Try.func28, Try.ntmps28
  go_wp2
  go_end0
  exact ⟨rfl, HI.out, HB.out, HKR.out⟩

set_option maxHeartbeats 400000 in
theorem wait_none (w : World) (sb : Nat) (p : ByteArray) (m t : Int) (oa : Option Addr) (oc : Nat) :
    Calls Try.prog 41 #[.pointer (some ⟨sb, 0, none⟩), .string p, .int .i64 m, .slice oa 0 oc, .int .i64 t] w fun e w' => e = .returned (.tuple #[]) ∧ w' = w := by
  go_enter Try.func41, Try.ntmps41
  go_wp2
  refine bodyPost_ret (results_none rfl _ _ _) rfl ?_
  exact ⟨rfl, rfl⟩

theorem Inv.cell4 {w : World} (h : Inv B L tick ls N f bg E fg w) : w.cell? ⟨L.sb, 4, none⟩ = some (.map (some L.mW)) := by
  obtain ⟨bv, s1, _⟩ := h.site
  exact cell_of_block s1 rfl

theorem ints_of_owns {w : World} {a : Option Addr} {c : Nat} {zs : List Int} (h : w.ownsRow B 29 1 (.slice a zs.length c) zs.length (zs.map (Value.int .i64))) : Ints w a zs := by
  rcases h.2 with ⟨h1, h2⟩ | ⟨g, cap, cur, hv, _⟩
  · left; exact List.length_eq_zero_iff.1 h2
  · right
    injection hv with e1 e2 e3
    subst e1
    refine ⟨g, 0, rfl, fun i hi => ?_⟩
    have := h.cells (g := g) rfl i (.int .i64 (zs.getD i 0)) (by simp [hi])
    rw [Addr.add_lit] at this
    exact this

/-- The begun list behind a wait. -/
def bgNext (ls : List ByteArray) (bg : List Int) (p : ByteArray) (t : Int) : List Int := if hasS ls p = true then insAt bg (bg.countP (· < t)) t else bg
theorem bgNext_no {ls : List ByteArray} {bg : List Int} {p : ByteArray} {t : Int} (h : hasS ls p = false) : bgNext ls bg p t = bg := by simp [bgNext, h]
theorem bgNext_yes {ls : List ByteArray} {bg : List Int} {p : ByteArray} {t : Int} (h : hasS ls p = true) : bgNext ls bg p t = insAt bg (bg.countP (· < t)) t := by simp [bgNext, h]

theorem recIs_new {w : World} {g c : Nat} {on : List ByteArray} {m t : Int} (ho : w.ownsRow B 9 1 (.slice (some ⟨g, 0, none⟩) on.length c) on.length (on.map Value.string)) :
    RecIs B w (.agg #[.int .i64 m, .slice (some ⟨g, 0, none⟩) on.length c, .int .i64 t]) ⟨m, on, t⟩ := ⟨g, c, rfl, ho⟩

set_option maxRecDepth 20000 in
set_option maxHeartbeats 2000000 in
theorem wait_some (w : World) (h : Inv B L tick ls N f bg E fg w) (hN : N < maxLen) (hm : ls.length ≤ 9223372036854775807) (hbg : bg.length ≤ 1048575) (hso : bg.Pairwise (· ≤ ·)) (p : ByteArray) (hp : p.size ≤ maxLen) (m t : Int)
    (b off : Nat) (on : List ByteArray) (oc : Nat) (h0 : 0 < on.length) (hon : on.length ≤ 1048576) (hc : ∀ i, i < on.length → w.cell? ⟨b, off + i, none⟩ = some (.string (on.getD i ByteArray.empty))) :
    Calls Try.prog 41 #[.pointer (some ⟨L.sb, 0, none⟩), .string p, .int .i64 m, .slice (some ⟨b, off, none⟩) on.length oc, .int .i64 t] w fun e w' => e = .returned (.tuple #[]) ∧
      Inv B L tick ls (N + 1) (upd f p (some ⟨m, on, t⟩)) (bgNext ls bg p t) E fg w' ∧ Below B w w' ∧ RowsKept w w' := by
  have c4 := h.cell4
  have HC := hidden hc
  have HI := hidden h
  clear hc h
  go_enter Try.func41, Try.ntmps41
  go_wp2_with fail
  go_region_held3 (fun w' => w'.cell? ⟨L.sb, 4, none⟩ = some (.map (some L.mW))) (first | go_keep | assumption)
    ((go_at_call 57; refine (clone57 b off on oc _ h0 hon (by exact HC.out)).mono ?_; rintro e w1 ⟨g, c, rfl, ho1, hg1⟩; have c41 : w1.cell? ⟨L.sb, 4, none⟩ = some (.map (some L.mW)) := hg1.cell (by exact c4) (by simp); obtain ⟨w2, hupd, hI2, hg2⟩ := ((HI.out.kept (grown_drew w)).kept hg1).put hN hp (recIs_new (m := m) (t := t) (owns_base ho1 (by exact HI.out.sizeB))); have c42 := hI2.cell4))
  have HB2 : Hid (Below B w w2) := (((Below.refl B w).trans (grown_below (grown_drew w) HI.out.sizeB)).trans (grown_below hg1 HI.out.sizeB)).grown hg2 (Nat.le_trans HI.out.sizeB hg1.size) (fun k e => by injection e with e; have := HI.out.lay.2.2.1; omega)
  have HK2 : Hid (RowsKept w w2) := by
    have h1 := HI.out.kept (grown_drew w)
    obtain ⟨D0, d0, _⟩ := (h1.kept hg1).waits
    exact ((rowsKept_grown (grown_drew w)).trans (rowsKept_grown hg1)).trans (rowsKept_map hg2 (notRow_owns d0))
  clear HI HC c4 c41 c42 ho1 hg1 hupd hg2
  obtain ⟨bv, s1, s2⟩ := hI2.site
  obtain ⟨ao, ac, b1, b2⟩ := hI2.box
  have hs := strs_of_owns b2
  have hv : ∃ a c, bv = .slice a bg.length c := by
    rcases s2.2 with ⟨rfl, e⟩ | ⟨g, cap, cur, rfl, _⟩
    · exact ⟨none, 0, by rw [e]⟩
    · exact ⟨_, _, rfl⟩
  obtain ⟨ab, cb, rfl⟩ := hv
  have c0 : w2.cell? ⟨L.sb, 0, none⟩ = some (.func (.func 37) #[] #[.pointer (some ⟨L.bx, 0, none⟩)]) := cell_of_block s1 rfl
  have c7 : w2.cell? ⟨L.sb, 7, none⟩ = some (.slice ab bg.length cb) := cell_of_block s1 rfl
  have cbx : w2.cell? ⟨L.bx, 0, none⟩ = some (.slice ao ls.length ac) := cell_of_block b1 rfl
  have hsb := lt_of_block s1
  have HI2 := hidden hI2
  have S1 := hidden s1
  have S2 := hidden s2
  have HST := hidden hs
  have HSO := hidden hso
  clear hI2 s1 s2 b1 b2 hs hso
  go_wp2_with fail
  refine (local_any L.bx ao ac ls p _ hm HST.out cbx).mono ?_
  rintro e w' ⟨rfl, rfl⟩
  clear cbx c0
  cases hb : hasS ls p
  · have HE := hidden (bgNext_no (bg := bg) (t := t) hb)
    go_wp2_with fail
    go_end0
    exact ⟨rfl, by rw [HE.out]; exact HI2.out, HB2.out, HK2.out⟩
  · have HE := hidden (bgNext_yes (bg := bg) (t := t) hb)
    go_wp2_with fail
    refine (search_any ab bg cb t _ (by omega) (ints_of_owns S2.out) HSO.out).mono ?_
    rintro e w3 ⟨⟨sb2, rfl⟩, rfl⟩
    have hR : bg.countP (· < t) ≤ bg.length := List.countP_le_length
    generalize bg.countP (· < t) = R at hR HE ⊢
    have hne : (Value.slice ab bg.length cb).ownBlock ≠ some w3.heap.size := fun e => by have := (S2.out.lt _ e).2; omega
    have HNE := hidden hne
    have hS2' := owns_kept S2.out (World.grownBy_alloc w3 (.cells #[.int .i64 t] 29) none)
    have HS2' := hidden hS2'
    have hBs : B ≤ (w3.alloc (.cells #[.int .i64 t] 29)).heap.size := by have := HI2.out.sizeB; simp; omega
    have HBS := hidden hBs
    have HVB := hidden (at_new (w := w3) (o := .cells #[.int .i64 t] 29) rfl)
    clear hne hS2' hBs
    go_wp2_with fail
    refine (insert_any B ab cb R bg t w3.heap.size _ HBS.out (by omega) hR HS2'.out HVB.out HNE.out).mono ?_
    rintro e w4 ⟨v', rfl, ho4, hg4⟩
    obtain ⟨g5, c5, hv5⟩ := owns_shape ho4 (by rw [length_insAt hR]; omega)
    have hI' := HI2.out.kept (World.grownBy_alloc w3 (.cells #[.int .i64 t] 29) none)
    obtain ⟨hI5, hb5, s5, k5⟩ := hI'.begunTurn (at_old S1.out) HS2'.out hg4 ho4 HBS.out
    rw [hv5] at hI5 hb5 k5
    rw [hv5]
    have c75 : w4.cell? ⟨L.sb, 7, none⟩ = some (.slice ab bg.length cb) := cell_of_block s5 rfl
    have f75 : w4.frozen? ⟨L.sb, 7, none⟩ = false := frozen_of_block s5
    have HI5 := hidden hI5
    have HB5 : Hid (Below B w (w4.setCell ⟨L.sb, 7, none⟩ (.slice (some ⟨g5, 0, none⟩) (insAt bg R t).length c5))) := HB2.out.trans ((grown_below (World.grownBy_alloc w3 _ none) HI2.out.sizeB).trans hb5)
    have HK5 := hidden ((HK2.out.trans (rowsKept_grown (World.grownBy_alloc w3 _ none))).trans k5)
    clear k5 ho4 hg4 hI' hI5 hb5 s5 hv5 HI2 S1 S2 HST HSO HNE HS2' HBS HVB HB2 c7 hsb
    go_wp2_with fail
    go_end0
    exact ⟨rfl, by rw [HE.out]; exact HI5.out, HB5.out, HK5.out⟩
end

end Go.Proofs.Qxb6609132a
