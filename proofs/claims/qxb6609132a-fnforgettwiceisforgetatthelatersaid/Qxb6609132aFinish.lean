import Derived.Test.Qxb6609132aKeys
import Derived.Test.Qxb6609132aWait
import Derived.Deep.RegionHeld3
namespace Go.Proofs.Qxb6609132a
open Go.RowKit Go.Maps

section
variable {B : Nat} {L : Lay} {tick : Int} {ls : List ByteArray} {N : Nat} {f : ByteArray → Option Rec} {bg : List Int} {E : DataW Value} {fg : Int} {w : World}

/-- The ended map alone has turned. -/
theorem Inv.endedTurn (h : Inv B L tick ls N f bg E fg w) {w' : World} (hg : w.grownBy w' (some L.mE)) {N' : Nat} (hN : N ≤ N') {E' : DataW Value} (hE : w'.ownsMap Try.prog 36 rawElem L.mE N' E') :
    Inv B L tick ls N' f bg E' fg w' := by
  obtain ⟨bv, s1, s2⟩ := h.site
  obtain ⟨a, c, b1, b2⟩ := h.box
  obtain ⟨D, d1, d2⟩ := h.waits
  have nr := notRow_owns h.ended
  obtain ⟨_, _, _, _, _, _, _, _, l2, _, _, l5, _, _, l8, l9, _⟩ := h.lay
  exact ⟨h.lay, ⟨bv, block_turn s1 hg (nr _), owns_turn s2 hg (nr _)⟩, ⟨a, c, block_turn b1 hg (nr _), owns_turn b2 hg (nr _)⟩, ⟨D, (d1.kept hg (by simpa using l2)).mono hN, waits_turn d2 hg (nr _)⟩,
    h.walked.kept hg (by simpa using l5), hE, h.aborted.kept hg (by simpa using Ne.symm l8), h.engaged.kept hg (by simpa using Ne.symm l9)⟩

/-- The walked map alone has turned: it stays empty. -/
theorem Inv.walkedTurn (h : Inv B L tick ls N f bg E fg w) {w' : World} (hg : w.grownBy w' (some L.mK)) (hK : w'.ownsMap Try.prog 36 rawElem L.mK 0 (.map [])) :
    Inv B L tick ls N f bg E fg w' := by
  obtain ⟨bv, s1, s2⟩ := h.site
  obtain ⟨a, c, b1, b2⟩ := h.box
  obtain ⟨D, d1, d2⟩ := h.waits
  have nr := notRow_owns h.walked
  obtain ⟨_, _, _, _, _, _, _, l1, _, _, _, l5, l6, l7, _, _, _⟩ := h.lay
  exact ⟨h.lay, ⟨bv, block_turn s1 hg (nr _), owns_turn s2 hg (nr _)⟩, ⟨a, c, block_turn b1 hg (nr _), owns_turn b2 hg (nr _)⟩, ⟨D, d1.kept hg (by simpa using l1), waits_turn d2 hg (nr _)⟩,
    hK, h.ended.kept hg (by simpa using Ne.symm l5), h.aborted.kept hg (by simpa using Ne.symm l6), h.engaged.kept hg (by simpa using Ne.symm l7)⟩

theorem Inv.fin (h : Inv B L tick ls N f bg E fg w) (hN : N < maxLen) {s : ByteArray} {a : Int} (hs : s.size ≤ maxLen) (ha : (Lit.int .i64 a).wf = true) :
    ∃ w', (Instr.mapUpdate 33 (.map (some L.mE)) (.agg #[.string s, .int .i64 a]) (.bool true)).run Try.prog w = .ok () w' ∧ Inv B L tick ls (N + 1) f bg (E.put (keyD s a) (.held (.bool true))) fg w' ∧ w.grownBy w' (some L.mE) := by
  obtain ⟨w', hrun, o1, g1⟩ := h.ended.update law36 Try.underlying33 hN (keyOf36 hs ha) (val := .bool true) (d := .held (.bool true)) (ps := []) rfl
  exact ⟨w', hrun, h.endedTurn g1 (Nat.le_succ _) o1, g1⟩

theorem Inv.unwalk (h : Inv B L tick ls N f bg E fg w) {s : ByteArray} {a : Int} (hs : s.size ≤ maxLen) (ha : (Lit.int .i64 a).wf = true) (ty : TypeId) :
    ∃ w', (Builtin.delete_ #[63, 36] ty #[.map (some L.mK), .agg #[.string s, .int .i64 a]]).run Try.prog w = .ok (.tuple #[]) w' ∧ Inv B L tick ls N f bg E fg w' ∧ w.grownBy w' (some L.mK) := by
  obtain ⟨w', hrun, o1, g1⟩ := h.walked.drop law36 Try.underlying63 (keyOf36 hs ha) ty
  exact ⟨w', hrun, h.walkedTurn g1.grown o1, g1.grown⟩

theorem Inv.cell5 (h : Inv B L tick ls N f bg E fg w) : w.cell? ⟨L.sb, 5, none⟩ = some (.map (some L.mK)) := by
  obtain ⟨bv, s1, _⟩ := h.site
  exact cell_of_block s1 rfl
theorem Inv.cell6 (h : Inv B L tick ls N f bg E fg w) : w.cell? ⟨L.sb, 6, none⟩ = some (.map (some L.mE)) := by
  obtain ⟨bv, s1, _⟩ := h.site
  exact cell_of_block s1 rfl
end

set_option maxRecDepth 20000 in
set_option maxHeartbeats 2000000 in
theorem finish_any {B : Nat} {L : Lay} {tick : Int} {ls : List ByteArray} {N : Nat} {f : ByteArray → Option Rec} {bg : List Int} {E : DataW Value} {fg : Int} (w : World) (h : Inv B L tick ls N f bg E fg w) (hB : B ≤ w.heap.size) (hN : N < maxLen) (s : ByteArray) (a : Int) (hs : s.size ≤ maxLen) (ha : (Lit.int .i64 a).wf = true) :
    Calls Try.prog 42 #[.pointer (some ⟨L.sb, 0, none⟩), .agg #[.string s, .int .i64 a]] w fun e w' => e = .returned (.tuple #[]) ∧ Inv B L tick ls (N + 1) f bg (E.put (keyD s a) (.held (.bool true))) fg w' ∧ Below B w w' := by
  have hg0 : w.grownBy (w.alloc (Obj.cells #[.string s, .int .i64 a] 36)) none := World.grownBy_alloc w _ none
  have HG0 := hidden hg0
  have HI := hidden (h.kept hg0)
  have hmE := h.ended.lt
  have hmK := h.walked.lt
  clear h hg0
  go_enter Try.func42, Try.ntmps42
  go_wp2_with fail
  have c0 : (w.alloc (Obj.cells #[.string s, .int .i64 a] 36)).cell? ⟨w.heap.size, 0, none⟩ = some (.string s) := by go_keep
  have c1 : (w.alloc (Obj.cells #[.string s, .int .i64 a] 36)).cell? ⟨w.heap.size, 1, none⟩ = some (.int .i64 a) := by go_keep
  generalize w.alloc (Obj.cells #[.string s, .int .i64 a] 36) = w1 at c0 c1 HI HG0 ⊢
  have c6 := HI.out.cell6
  obtain ⟨w2, hupd, hI2, hg2⟩ := (HI.out.kept (grown_drew w1)).fin hN hs ha
  have hne : ∀ j, some (⟨w.heap.size, j, none⟩ : Addr).block ≠ some L.mE := fun j e => by
    injection e with e
    simp only at e
    omega
  have d0 := hg2.cell c0 (hne 0)
  have d1 := hg2.cell c1 (hne 1)
  have d6 := hI2.cell6
  have HI2 := hidden hI2
  have HG2 := hidden hg2
  clear hI2 hg2
  go_region_held3 (fun w' => w'.cell? ⟨L.sb, 6, none⟩ = some (.map (some L.mE)) ∧ w'.cell? ⟨w.heap.size, 0, none⟩ = some (.string s) ∧ w'.cell? ⟨w.heap.size, 1, none⟩ = some (.int .i64 a)) (go_keep) (fail)
  have d5 := HI2.out.cell5
  obtain ⟨w3, hdel, hI3, hg3⟩ := (HI2.out.kept (grown_drew w2)).unwalk hs ha 0
  have hne2 : ∀ j, some (⟨w.heap.size, j, none⟩ : Addr).block ≠ some L.mK := fun j e => by
    injection e with e
    simp only at e
    omega
  have e0 := hg3.cell d0 (hne2 0)
  have e1 := hg3.cell d1 (hne2 1)
  have e5 := hI3.cell5
  have HI3 := hidden hI3
  have hlay := HI2.out.lay
  have HB3 : Hid (Below B w w3) := ((((Below.refl B w).trans (grown_below HG0.out hB)).trans (grown_below (grown_drew w1) (Nat.le_trans hB HG0.out.size))).grown HG2.out (Nat.le_trans hB HG0.out.size) (fun k e => by injection e with e; subst e; exact hlay.2.2.2.2.1)).grown (World.grownBy.refl w2 none) (Nat.le_trans (Nat.le_trans hB HG0.out.size) HG2.out.size) (fun k e => by cases e) |>.trans (grown_below (grown_drew w2) (Nat.le_trans (Nat.le_trans hB HG0.out.size) HG2.out.size)) |>.grown hg3 (Nat.le_trans (Nat.le_trans hB HG0.out.size) HG2.out.size) (fun k e => by injection e with e; subst e; exact hlay.2.2.2.1)
  clear hI3 hg3 HI HI2 HG2 hupd c0 c1 c6 d6
  go_wp2_with fail
  go_region_held3 (fun w' => w'.cell? ⟨L.sb, 5, none⟩ = some (.map (some L.mK)) ∧ w'.cell? ⟨w.heap.size, 0, none⟩ = some (.string s) ∧ w'.cell? ⟨w.heap.size, 1, none⟩ = some (.int .i64 a)) (go_keep) (fail)
  go_wp2_with fail
  go_end0
  exact ⟨rfl, HI3.out, HB3.out⟩

end Go.Proofs.Qxb6609132a
