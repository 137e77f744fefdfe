import Derived.Test.Qxb6609132aBytes
namespace Go.Proofs.Qxb6609132a
open Go.RowKit

theorem Try.info9 : (Try.prog.info? 9).map (fun i => (i.zero, i.size, i.bytes)) = some (some (.string ByteArray.empty), 1, 16) := by kernel_rfl

theorem clone_step (ss : List ByteArray) (k : Nat) (hk : k < ss.length) :
    ((ss.take k).map Value.string ++ List.replicate (ss.length - k) (Value.string ByteArray.empty)).set k (Value.string (ss.getD k ByteArray.empty)) =
      (ss.take (k + 1)).map Value.string ++ List.replicate (ss.length - (k + 1)) (Value.string ByteArray.empty) := by
  have hl : (List.map Value.string (ss.take k)).length = k := by simp; omega
  rw [List.set_append_right k _ (by omega), hl, Nat.sub_self, show ss.length - k = (ss.length - (k + 1)) + 1 by omega, List.replicate_succ, List.set_cons_zero,
    List.take_succ_eq_append_getElem hk, List.map_append, List.append_assoc]
  simp [hk]

set_option maxHeartbeats 400000 in
theorem clone_nil (cap : Nat) (w : World) : Calls Try.prog 13 #[.slice none 0 cap] w fun e w' => e = .returned (.slice none 0 0) ∧ w' = w := by
  have hn := fun (w : World) => Lib.run_eql_slice_nil (P := Try.prog) w 22 9 none 0 cap 0 0 Try.underlying22
  go_enter Try.func13, Try.ntmps13
  go_wp2
  go_ret
  exact ⟨rfl, rfl⟩

set_option maxHeartbeats 400000 in
theorem clone_some (x : Addr) (ss : List ByteArray) (cap : Nat) (w : World) (hm : ss.length ≤ 1099511627776) (hs : Strs w (some x) ss) :
    Calls Try.prog 13 #[.slice (some x) ss.length cap] w fun e w' => e = .returned (.slice (some ⟨w.heap.size, 0, none⟩) ss.length ss.length) ∧
      w'.ownsRow w.heap.size 9 1 (.slice (some ⟨w.heap.size, 0, none⟩) ss.length ss.length) ss.length (ss.map Value.string) ∧ Below w.heap.size w w' := by
  have hn := fun (w : World) => Lib.run_eql_slice_nil (P := Try.prog) w 22 9 (some x) ss.length cap 0 0 Try.underlying22
  obtain ⟨i0, hi, hz0, hz1, hz2⟩ := info_parts Try.info9
  go_enter Try.func13, Try.ntmps13
  go_wp2_with (at_make; refine wpList_make_full _ rfl _ _ 22 rfl w.heap.size 9 i0 (.string ByteArray.empty) 1 Try.underlying22 hi hz0 hz1 .i64 .i64 _ _ ss.length rfl rfl rfl rfl (by rw [hz2]; omega) (by unfold maxLen; omega) (Nat.le_refl _) ?_; intro w1 hown1 hgr1)
  go_loopw [4] (fun i wr => ∃ (k : Nat), k ≤ ss.length ∧ i = .int .i64 k ∧ wr.ownsRow w.heap.size 9 1 (.slice (some ⟨w.heap.size, 0, none⟩) ss.length ss.length) ss.length ((ss.take k).map Value.string ++ List.replicate (ss.length - k) (Value.string ByteArray.empty)) ∧ Below w.heap.size w wr) (fun i _ => ss.length - (intOf i).toNat)
  case atStart =>
    refine ⟨0, Nat.zero_le _, rfl, ?_, (Below.refl _ _).grown hgr1 (Nat.le_refl _) (fun k h => by cases h)⟩
    have e := toList_madeCells_one (.string ByteArray.empty) (ss.length * 1)
    rw [show (Value.string ByteArray.empty).cells = #[Value.string ByteArray.empty] from rfl, e] at hown1
    simpa using hown1
  case round =>
    obtain ⟨k, hk, rfl, hown, hb⟩ := hrel
    clear hown1 hgr1
    by_cases hlt : k < ss.length
    · rcases hs with rfl | ⟨b, off, h, hc⟩
      · simp at hlt
      cases h
      have hc0 := hc k hlt
      have hbl := World.block_lt_of_cell? w _ hc0
      have hcell : wr.cell? ⟨b, off + k, none⟩ = some (.string (ss.getD k ByteArray.empty)) := (hb.cell (by exact hbl)).trans hc0
      have hat := hown.cellAt k (by omega)
      have hfz := hown.frozenAt k
      obtain ⟨u, hu⟩ : ∃ u, wr.cell? ⟨w.heap.size, k, none⟩ = some u := by
        rw [hat]; exact ⟨_, List.getElem?_eq_getElem (by simp; omega)⟩
      have st := hown.stored k (.string (ss.getD k ByteArray.empty))
      rw [clone_step ss k hlt] at st
      have hb' : Below w.heap.size w (wr.setCell ⟨w.heap.size, k, none⟩ (.string (ss.getD k ByteArray.empty))) := hb.setCell (Nat.le_refl _) _
      have ST : Hid _ := st
      clear hat hc hc0 hown st
      generalize ss.getD k ByteArray.empty = y at *
      go_wp2_with fail
      go_roundw
      case rel => exact ⟨k + 1, by omega, by go_num, ST.out.1, hb'⟩
      case measure => simp [intOf]; omega
    · clear hs
      have e : k = ss.length := by omega
      subst e
      go_wp2_with fail
      go_ret
      exact ⟨rfl, by simpa using hown, hb⟩

end Go.Proofs.Qxb6609132a
