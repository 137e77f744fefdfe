import Derived.Test.Qxb6614837aFind
namespace Go.Proofs.Qxb6614837a
open Go.RowKit

theorem Try.info28 : (Try.prog.info? 28).map (fun i => (i.zero, i.size, i.bytes)) = some (some (.int .u32 0), 1, 4) := by kernel_rfl
theorem Try.info48 : (Try.prog.info? 48).map (fun i => (i.zero, i.size, i.bytes)) = some (some (.int .u32 0), 1, 4) := by kernel_rfl
theorem Try.info3 : (Try.prog.info? 3).map (fun i => (i.zero, i.size, i.bytes)) = some (some (.int .i64 0), 1, 8) := by kernel_rfl

/-- The row g of kind k lies in the new block tb. -/
def Owns (w : World) (B : Nat) (e : TypeId) (k : IntKind) (tb : Nat) (g : List Int) : Prop := w.ownsRow B e 1 (.slice (some ⟨tb, 0, none⟩) g.length g.length) g.length (g.map (Value.int k))

theorem Owns.lies {w : World} {B : Nat} {e : TypeId} {tb : Nat} {g : List Int} (h : Owns w B e .u32 tb g) : Lies w tb g := fun i hi => by
  have := World.ownsRow.cellAt h i (by omega)
  rw [this]
  simp [hi, List.getD]
theorem Owns.cell {w : World} {B : Nat} {e : TypeId} {k : IntKind} {tb : Nat} {g : List Int} (h : Owns w B e k tb g) {i : Nat} (hi : i < g.length) : w.cell? ⟨tb, i, none⟩ = some (.int k (g.getD i 0)) := by
  have := World.ownsRow.cellAt h i (by omega)
  rw [this]
  simp [hi, List.getD]
theorem Owns.frozen {w : World} {B : Nat} {e : TypeId} {k : IntKind} {tb : Nat} {g : List Int} (h : Owns w B e k tb g) (i : Nat) : w.frozen? ⟨tb, i, none⟩ = false := World.ownsRow.frozenAt h i
theorem Owns.put {w : World} {B : Nat} {e : TypeId} {k : IntKind} {tb : Nat} {g : List Int} (h : Owns w B e k tb g) (i : Nat) (x : Int) : Owns (w.setCell ⟨tb, i, none⟩ (.int k x)) B e k tb (g.set i x) := by
  have := (World.ownsRow.stored h i (.int k x)).1
  unfold Owns
  rw [List.length_set, List.map_set]
  exact this
theorem Owns.kept {w w' : World} {B : Nat} {e : TypeId} {k : IntKind} {tb : Nat} {g : List Int} (h : Owns w B e k tb g) (hg : w.grownBy w' none) : Owns w' B e k tb g :=
  World.ownsRow.kept h hg (by simp [Value.ownBlock])
theorem Owns.lt {w : World} {B : Nat} {e : TypeId} {k : IntKind} {tb : Nat} {g : List Int} (h : Owns w B e k tb g) : B ≤ tb ∧ tb < w.heap.size := World.ownsRow.lt h tb rfl
theorem Owns.other {w : World} {B : Nat} {e : TypeId} {k : IntKind} {tb : Nat} {g : List Int} (h : Owns w B e k tb g) {a : Addr} (ha : tb ≠ a.block) (u : Value) : Owns (w.setCell a u) B e k tb g :=
  ownsRow_setCell_other h (by simpa [Value.ownBlock] using ha) u

theorem below_grown {w w' : World} (h : Below w.heap.size w w') : w.grownBy w' none := ⟨h.os, h.tape, h.output, h.size, fun i hi _ => h.block i hi⟩
theorem grown_below {a b : World} (h : a.grownBy b none) {B : Nat} (hB : B ≤ a.heap.size) : Below B a b := (Below.refl B a).grown h hB (fun k e => by cases e)

theorem owns_made {w : World} {B : Nat} {e : TypeId} {k : IntKind} {tb n : Nat} (h : w.ownsRow B e 1 (.slice (some ⟨tb, 0, none⟩) n n) n (madeCells (Value.int k 0).cells (n * 1)).toList) : Owns w B e k tb (List.replicate n 0) := by
  have e' := toList_madeCells_one (.int k 0) (n * 1)
  rw [show (Value.int k 0).cells = #[Value.int k 0] from rfl, e'] at h
  unfold Owns
  simpa using h

/-- The first k of zs, then zeros. -/
def part (zs : List Int) (k : Nat) : List Int := zs.take k ++ List.replicate (zs.length - k) 0
theorem part_len {zs : List Int} {k : Nat} (hk : k ≤ zs.length) : (part zs k).length = zs.length := by simp [part]; omega
theorem part_all (zs : List Int) : part zs zs.length = zs := by simp [part]
theorem part_zero (zs : List Int) : part zs 0 = List.replicate zs.length 0 := by simp [part]
theorem part_step {zs : List Int} {k : Nat} (hk : k < zs.length) : (part zs k).set k (zs.getD k 0) = part zs (k + 1) := by
  have hl : (zs.take k).length = k := by simp; omega
  unfold part
  rw [List.set_append_right k _ (by omega), hl, Nat.sub_self, show zs.length - k = (zs.length - (k + 1)) + 1 by omega, List.replicate_succ, List.set_cons_zero,
    List.take_succ_eq_append_getElem hk, List.append_assoc]
  simp [hk]

set_option maxHeartbeats 400000 in
theorem toTable_nil (w : World) : Calls Try.prog 16 #[.slice none 0 0] w fun e w' => e = .returned (.slice none 0 0) ∧ w' = w := by
  have hn := fun (w : World) => Lib.run_eql_slice_nil (P := Try.prog) w 22 28 none 0 0 0 0 Try.underlying22
  go_enter Try.func16, Try.ntmps16
  go_wp2
  go_ret
  exact ⟨rfl, rfl⟩

set_option maxHeartbeats 1000000 in
theorem toTable_some (tb cap : Nat) (zs : List Int) (w : World) (hm : zs.length ≤ 1048576) (hs : Lies w tb zs) :
    Calls Try.prog 16 #[.slice (some ⟨tb, 0, none⟩) zs.length cap] w fun e w' => e = .returned (.slice (some ⟨w.heap.size, 0, none⟩) zs.length zs.length) ∧
      Owns w' w.heap.size 48 .u32 w.heap.size zs ∧ w.grownBy w' none := by
  have hn := fun (w : World) => Lib.run_eql_slice_nil (P := Try.prog) w 22 28 (some ⟨tb, 0, none⟩) zs.length cap 0 0 Try.underlying22
  obtain ⟨i0, hi, hz0, hz1, hz2⟩ := info_parts Try.info48
  go_enter Try.func16, Try.ntmps16
  go_wp2_with (at_make; refine wpList_make_full _ rfl _ _ 38 rfl w.heap.size 48 i0 (.int .u32 0) 1 Try.underlying38 hi hz0 hz1 .i64 .i64 _ _ zs.length rfl rfl rfl rfl (by rw [hz2]; omega) (by unfold maxLen; omega) (Nat.le_refl _) ?_; intro w1 hown1 hgr1)
  go_loopw [13] (fun i wr => ∃ (k : Nat), k ≤ zs.length ∧ i = .int .i64 k ∧ Owns wr w.heap.size 48 .u32 w.heap.size (part zs k) ∧ Below w.heap.size w wr) (fun i _ => zs.length - (intOf i).toNat)
  case atStart =>
    refine ⟨0, Nat.zero_le _, rfl, ?_, (Below.refl _ _).grown hgr1 (Nat.le_refl _) (fun k h => by cases h)⟩
    rw [part_zero]
    exact owns_made hown1
  case round =>
    obtain ⟨k, hk, rfl, hown, hb⟩ := hrel
    clear hown1 hgr1
    by_cases hlt : k < zs.length
    · have hc0 := hs k hlt
      have hbl := World.block_lt_of_cell? w _ hc0
      have hcell : wr.cell? ⟨tb, k, none⟩ = some (.int .u32 (zs.getD k 0)) := (hb.cell (by exact hbl)).trans hc0
      have hat := hown.cell (i := k) (by rw [part_len (by omega)]; exact hlt)
      have hfz := hown.frozen k
      have st := hown.put k (zs.getD k 0)
      rw [part_step hlt] at st
      have hb' : Below w.heap.size w (wr.setCell ⟨w.heap.size, k, none⟩ (.int .u32 (zs.getD k 0))) := hb.setCell (Nat.le_refl _) _
      have ST := hidden st
      have HB := hidden hb'
      clear hc0 hown st hb' hs hb
      generalize zs.getD k 0 = y at *
      generalize (part zs k).getD k 0 = y0 at *
      go_wp2_with fail
      go_roundw
      case rel => exact ⟨k + 1, by omega, by go_num, ST.out, HB.out⟩
      case measure => simp [intOf]; omega
    · clear hs
      have e : k = zs.length := by omega
      subst e
      rw [part_all] at hown
      go_wp2_with fail
      go_ret
      exact ⟨rfl, hown, below_grown hb⟩

set_option maxHeartbeats 400000 in
theorem fromTable_nil (w : World) : Calls Try.prog 15 #[.slice none 0 0] w fun e w' => e = .returned (.slice none 0 0) ∧ w' = w := by
  have hn := fun (w : World) => Lib.run_eql_slice_nil (P := Try.prog) w 38 48 none 0 0 0 0 Try.underlying38
  go_enter Try.func15, Try.ntmps15
  go_wp2
  go_ret
  exact ⟨rfl, rfl⟩

set_option maxHeartbeats 1000000 in
theorem fromTable_some (tb cap : Nat) (zs : List Int) (w : World) (hm : zs.length ≤ 1048576) (hs : Lies w tb zs) :
    Calls Try.prog 15 #[.slice (some ⟨tb, 0, none⟩) zs.length cap] w fun e w' => e = .returned (.slice (some ⟨w.heap.size, 0, none⟩) zs.length zs.length) ∧
      Owns w' w.heap.size 28 .u32 w.heap.size zs ∧ w.grownBy w' none := by
  have hn := fun (w : World) => Lib.run_eql_slice_nil (P := Try.prog) w 38 48 (some ⟨tb, 0, none⟩) zs.length cap 0 0 Try.underlying38
  obtain ⟨i0, hi, hz0, hz1, hz2⟩ := info_parts Try.info28
  go_enter Try.func15, Try.ntmps15
  go_wp2_with (at_make; refine wpList_make_full _ rfl _ _ 22 rfl w.heap.size 28 i0 (.int .u32 0) 1 Try.underlying22 hi hz0 hz1 .i64 .i64 _ _ zs.length rfl rfl rfl rfl (by rw [hz2]; omega) (by unfold maxLen; omega) (Nat.le_refl _) ?_; intro w1 hown1 hgr1)
  go_loopw [13] (fun i wr => ∃ (k : Nat), k ≤ zs.length ∧ i = .int .i64 k ∧ Owns wr w.heap.size 28 .u32 w.heap.size (part zs k) ∧ Below w.heap.size w wr) (fun i _ => zs.length - (intOf i).toNat)
  case atStart =>
    refine ⟨0, Nat.zero_le _, rfl, ?_, (Below.refl _ _).grown hgr1 (Nat.le_refl _) (fun k h => by cases h)⟩
    rw [part_zero]
    exact owns_made hown1
  case round =>
    obtain ⟨k, hk, rfl, hown, hb⟩ := hrel
    clear hown1 hgr1
    by_cases hlt : k < zs.length
    · have hc0 := hs k hlt
      have hbl := World.block_lt_of_cell? w _ hc0
      have hcell : wr.cell? ⟨tb, k, none⟩ = some (.int .u32 (zs.getD k 0)) := (hb.cell (by exact hbl)).trans hc0
      have hat := hown.cell (i := k) (by rw [part_len (by omega)]; exact hlt)
      have hfz := hown.frozen k
      have st := hown.put k (zs.getD k 0)
      rw [part_step hlt] at st
      have hb' : Below w.heap.size w (wr.setCell ⟨w.heap.size, k, none⟩ (.int .u32 (zs.getD k 0))) := hb.setCell (Nat.le_refl _) _
      have ST := hidden st
      have HB := hidden hb'
      clear hc0 hown st hb' hs hb
      generalize zs.getD k 0 = y at *
      generalize (part zs k).getD k 0 = y0 at *
      go_wp2_with fail
      go_roundw
      case rel => exact ⟨k + 1, by omega, by go_num, ST.out, HB.out⟩
      case measure => simp [intOf]; omega
    · clear hs
      have e : k = zs.length := by omega
      subst e
      rw [part_all] at hown
      go_wp2_with fail
      go_ret
      exact ⟨rfl, hown, below_grown hb⟩

end Go.Proofs.Qxb6614837a
