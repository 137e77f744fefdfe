import Derived.Test.Qxb6609132aFinish
import Derived.Lib.SlMapFilter
import Derived.Maps.Ext
import Derived.Maps.RangeWalk
import Derived.Laws.IdiomRangeMap
import Derived.Deep.LoopGhost
namespace Go.Proofs.Qxb6609132a
open Go.RowKit Go.Maps

set_option maxHeartbeats 400000 in
theorem old_any (s : ByteArray) (a bf : Int) (bb : Nat) (w : World) (hb : w.cell? ⟨bb, 0, none⟩ = some (.int .i64 bf)) :
    Calls Try.prog 43 #[.agg #[.string s, .int .i64 a], .pointer (some ⟨bb, 0, none⟩)] w fun e w' => e = .returned (.bool (decide (a < bf))) ∧ w.grownBy w' none := by
  have hlt := World.block_lt_of_cell? w _ hb
  simp only at hlt
  have hb1 : (w.alloc (Obj.cells #[.string s, .int .i64 a] 36)).cell? ⟨bb, 0, none⟩ = some (.int .i64 bf) := by rw [World.cell?_alloc_lt _ _ _ hlt]; exact hb
  go_enter Try.func43, Try.ntmps43
  go_wp2_with fail
  go_ret
  exact ⟨rfl, World.grownBy_alloc w _ none⟩

set_option maxHeartbeats 400000 in
theorem oldEnded_any (s : ByteArray) (a bf : Int) (v : Value) (bb ob : Nat) (w : World) (hb : w.cell? ⟨bb, 0, none⟩ = some (.int .i64 bf)) (ho : w.cell? ⟨ob, 0, none⟩ = some (.func (.func 43) #[] #[.pointer (some ⟨bb, 0, none⟩)])) :
    Calls Try.prog 47 #[.agg #[.string s, .int .i64 a], v, .pointer (some ⟨ob, 0, none⟩)] w fun e w' => e = .returned (.bool (decide (a < bf))) ∧ w.grownBy w' none := by
  have hlt := World.block_lt_of_cell? w _ ho
  have hlt2 := World.block_lt_of_cell? w _ hb
  simp only at hlt hlt2
  have ho1 : (w.alloc (Obj.cells #[.string s, .int .i64 a] 36)).cell? ⟨ob, 0, none⟩ = some (.func (.func 43) #[] #[.pointer (some ⟨bb, 0, none⟩)]) := by rw [World.cell?_alloc_lt _ _ _ hlt]; exact ho
  have hb1 : (w.alloc (Obj.cells #[.string s, .int .i64 a] 36)).cell? ⟨bb, 0, none⟩ = some (.int .i64 bf) := by rw [World.cell?_alloc_lt _ _ _ hlt2]; exact hb
  have HG := hidden (World.grownBy_alloc w (Obj.cells #[.string s, .int .i64 a] 36) none)
  have HB := hidden hb1
  clear hb hb1
  go_enter Try.func47, Try.ntmps47
  go_wp2_with (go_at_call 43; refine (old_any s a bf bb _ HB.out).mono ?_; rintro e w2 ⟨rfl, hg2⟩)
  go_ret
  exact ⟨rfl, grown_trans HG.out hg2⟩

/-- A pair as a detection's value. -/
def detV (p : ByteArray × Int) : Value := .agg #[.string p.1, .int .i64 p.2]

theorem rowCell_ne {w : World} {k : TypeId} {b n x : Nat} {D : DataW Value} {v : Value} (h : w.ownsMap Try.prog k rawElem b n D) (hc : w.cell? ⟨x, 0, none⟩ = some v) : some x ≠ some b := fun e => by
  injection e with e
  subst e
  obtain ⟨es, clock, hb, _⟩ := h
  simp [World.cell?, hb] at hc

set_option maxRecDepth 20000 in
set_option maxHeartbeats 2000000 in
theorem delEnded (pd : Lit → Bool) (bf : Int) (hpd : ∀ s a, s.size ≤ maxLen → (Lit.int .i64 a).wf = true → pd (keyD s a) = decide (a < bf)) (b n bb ob : Nat) (D : DataW Value) (w : World)
    (hown : w.ownsMap Try.prog 36 rawElem b n D) (hb : w.cell? ⟨bb, 0, none⟩ = some (.int .i64 bf)) (ho : w.cell? ⟨ob, 0, none⟩ = some (.func (.func 43) #[] #[.pointer (some ⟨bb, 0, none⟩)])) :
    Calls Try.prog 46 #[.map (some b), .func (.func 47) #[] #[.pointer (some ⟨ob, 0, none⟩)]] w fun e w' => e = .returned (.tuple #[]) ∧ w'.ownsMap Try.prog 36 rawElem b n (Lib.deleteFuncD (fun k _ => pd k) D) ∧ w.grownBy w' (some b) := by
  have nb := rowCell_ne hown hb
  have no := rowCell_ne hown ho
  obtain ⟨es0, rfl, hap, hkeys⟩ := hown.entries law36
  have HAP := hidden hap
  have HP := hidden hpd
  have HB := hidden hb
  have HO := hidden ho
  clear hpd hb ho
  go_enter Try.func46, Try.ntmps46
  go_wp2_with (first
    | (at_range; refine wpList_range_own _ rfl _ 33 rfl 36 4 law36 Try.underlying33 rawElem b n _ rfl hown ?_; intro w0 hrg0 hg0 hs0))
  go_frame
  go_loopw [8] (fun _ wr => ∃ (left : Lit → Bool) (cnt : Nat), wr.ranges Try.prog 36 rawElem b w.heap.size n (Fk (fun k _ => pd k) es0 left) left cnt ∧ w.grownBy wr (some b))
    (fun _ wr => wr.rangeLeft b w.heap.size)
  case atStart => exact ⟨_, _, by rw [Fk_start hkeys]; exact hrg0, hg0.but _⟩
  case round =>
    obtain ⟨left, cnt, hrg, hgw⟩ := hrel
    go_wp2_with (first
      | (at_next; refine wpList_next_ranges _ rfl _ rfl 36 law36 rawElem detV id (fun key kl hk => by obtain ⟨s, a, e, _⟩ := keyOf36_inv hk; exact ⟨(s, a), e⟩) (fun v _ _ => ⟨v, rfl⟩) b w.heap.size n _ _ _ rfl hrg ?_ ?_))
    · intro _ hl0
      go_wp2_with fail
      go_end0
      exact ⟨rfl, by rw [← Fk_end hl0]; exact hrg.owns, hgw⟩
    · intro s a c kl yd yp w1 cnt1 hkey hlx hv hat hrg1 hlt hg1 hs1 hen
      obtain ⟨s', a', e1, e2, hs, ha⟩ := keyOf36_inv hkey
      simp only [detV, Value.agg.injEq] at e1
      have e3 : s = s' ∧ a = a' := by simpa using e1
      obtain ⟨rfl, rfl⟩ := e3
      subst e2
      simp only [detV] at hkey hen ⊢
      have hgw1 := hgw.andThen hg1 (fun j hj => by cases hj; exact Or.inl (Nat.le_refl _))
      have kb := hgw1.cell HB.out nb
      have ko := hgw1.cell HO.out no
      have kb1 : (w1.alloc (Obj.cells #[.string s, .int .i64 a] 36)).cell? ⟨bb, 0, none⟩ = some (.int .i64 bf) := by rw [World.cell?_alloc_lt _ _ _ (by exact World.block_lt_of_cell? w1 _ kb)]; exact kb
      have ko1 : (w1.alloc (Obj.cells #[.string s, .int .i64 a] 36)).cell? ⟨ob, 0, none⟩ = some (.func (.func 43) #[] #[.pointer (some ⟨bb, 0, none⟩)]) := by rw [World.cell?_alloc_lt _ _ _ (by exact World.block_lt_of_cell? w1 _ ko)]; exact ko
      have HKB := hidden kb1
      have HKO := hidden ko1
      have HGA := hidden (World.grownBy_alloc w1 (Obj.cells #[.string s, .int .i64 a] 36) none)
      have hpp := HP.out s a hs ha
      have HHR := hidden hrg1
      have HHR0 := hidden hrg
      have HAT := hidden hat
      have HLX := hidden hlx
      have HKEY := hidden hkey
      have HGW := hidden hgw1
      clear kb ko kb1 ko1 hrg hgw hg1 hat hlx hkey hgw1 hown hap hkeys hrg0 hg0 hs0 hs1
      cases hd : decide (a < bf)
      · rw [hd] at hpp
        have HPP := hidden hpp
        clear hpp
        go_wp2_with (first
          | (go_at_call 47; refine (oldEnded_any s a bf c bb ob _ HKB.out HKO.out).mono ?_; rintro e w2 ⟨rfl, hg2⟩; rw [hd]))
        have HR2 := hidden (HHR.out.kept (grown_trans HGA.out hg2) (by simp) (by simp))
        go_roundw
        case rel => exact ⟨_, cnt1, by rw [← Fk_stays HAP.out (law36.key HKEY.out) HLX.out HPP.out HAT.out]; exact HR2.out, HGW.out.andThen (grown_trans HGA.out hg2) (fun j hj => by cases hj)⟩
        case measure => rw [HR2.out.left_eq, HHR0.out.left_eq]; exact hlt
      · rw [hd] at hpp
        have HPP := hidden hpp
        clear hpp
        go_wp2_with (first
          | (go_at_call 47; refine (oldEnded_any s a bf c bb ob _ HKB.out HKO.out).mono ?_; rintro e w2 ⟨rfl, hg2⟩; rw [hd]; have HR2 := hidden (HHR.out.kept (grown_trans HGA.out hg2) (by simp) (by simp)); have k0 : w2.cell? ⟨w1.heap.size, 0, none⟩ = some (.string s) := hg2.cell (by go_keep) (by simp); have k1 : w2.cell? ⟨w1.heap.size, 1, none⟩ = some (.int .i64 a) := hg2.cell (by go_keep) (by simp))
          | (at_delete; refine wpList_delete_ranges _ rfl _ _ 33 36 rfl 4 law36 Try.underlying33 rawElem b w.heap.size n _ _ _ rfl HR2.out _ _ rfl HKEY.out ?_; intro w3 cnt3 hrg3 hle hturn; go_frame))
        rw [strike_twice] at hrg3
        have HR3 := hidden hrg3
        go_roundw
        case rel => exact ⟨_, cnt3, by rw [← Fk_struck HAP.out (law36.key HKEY.out) HLX.out HPP.out HAT.out]; exact HR3.out, (HGW.out.andThen (grown_trans HGA.out hg2) (fun j hj => by cases hj)).andThen hturn.grown (fun j hj => by cases hj; exact Or.inr rfl)⟩
        case measure => rw [HR3.out.left_eq, HHR0.out.left_eq]; omega

end Go.Proofs.Qxb6609132a
