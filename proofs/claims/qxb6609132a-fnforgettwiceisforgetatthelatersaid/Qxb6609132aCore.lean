import Derived.Test.Qxb6609132aDelEmpty
import Derived.Test.Qxb6609132aDelete
namespace Go.Proofs.Qxb6609132a
open Go.RowKit Go.Maps

/-- Blocks but those from B up to C are as they were. -/
structure Frame (B C : Nat) (w w' : World) : Prop where
  os : w'.os = w.os
  tape : w'.tape = w.tape
  output : w'.output = w.output
  size : w.heap.size ≤ w'.heap.size
  block : ∀ k, k < w.heap.size → (k < B ∨ C ≤ k) → w'.heap[k]? = w.heap[k]?

theorem Frame.refl (B C : Nat) (w : World) : Frame B C w w := ⟨rfl, rfl, rfl, Nat.le_refl _, fun _ _ _ => rfl⟩
theorem Frame.grown {B C : Nat} {a b c : World} (h : Frame B C a b) {r : Option Nat} (k : b.grownBy c r) (hr : ∀ j, r = some j → B ≤ j ∧ j < C) : Frame B C a c :=
  ⟨k.os.trans h.os, k.tape.trans h.tape, k.output.trans h.output, Nat.le_trans h.size k.size, fun i hi hb => (k.block i (Nat.lt_of_lt_of_le hi h.size) (fun e => by have := hr i e.symm; omega)).trans (h.block i hi hb)⟩
theorem Frame.set {B C : Nat} {a b : World} (h : Frame B C a b) {p : Addr} (hp : B ≤ p.block ∧ p.block < C) (u : Value) : Frame B C a (b.setCell p u) :=
  ⟨h.os, h.tape, h.output, by simpa [World.setCell] using h.size, fun i hi hb => (Below.heap_setCell _ _ _ _ (fun e => by omega)).trans (h.block i hi hb)⟩
theorem Frame.below {B C : Nat} {w w' : World} (h : Frame B C w w') (hB : B ≤ w.heap.size) : Below B w w' := ⟨h.os, h.tape, h.output, h.size, fun k hk => h.block k (by omega) (.inl hk)⟩

/-- What Forget sees of a site, all of it in the blocks from B up to C. -/
structure Core (B C : Nat) (L : Lay) (bg : List Int) (E : DataW Value) (fg : Int) (N : Nat) (w : World) : Prop where
  sb : B ≤ L.sb ∧ L.sb < C
  mK : B ≤ L.mK ∧ L.mK < C
  mE : B ≤ L.mE ∧ L.mE < C
  mA : B ≤ L.mA ∧ L.mA < C
  mG : B ≤ L.mG ∧ L.mG < C
  kE : L.mK ≠ L.mE
  eA : L.mE ≠ L.mA
  eG : L.mE ≠ L.mG
  site : ∃ tick bv, w.heap[L.sb]? = some (.cells (siteCells L tick bv fg) 67 (0, 0)) ∧ w.ownsRow B 29 1 bv bg.length (bg.map (Value.int .i64)) ∧ ∀ g, bv.ownBlock = some g → g < C
  walked : w.ownsMap Try.prog 36 rawElem L.mK 0 (.map [])
  ended : w.ownsMap Try.prog 36 rawElem L.mE N E
  aborted : w.ownsMap Try.prog 9 rawElem L.mA 0 (.map [])
  engaged : w.ownsMap Try.prog 86 rawElem L.mG 0 (.map [])

theorem Inv.core {B : Nat} {L : Lay} {tick : Int} {ls : List ByteArray} {N : Nat} {f : ByteArray → Option Rec} {bg : List Int} {E : DataW Value} {fg : Int} {w : World} (h : Inv B L tick ls N f bg E fg w) : Core B w.heap.size L bg E fg N w := by
  obtain ⟨bv, s1, s2⟩ := h.site
  obtain ⟨l0, _, _, l3, l4, l5, l6, _, _, _, _, k1, _, _, k4, k5, _⟩ := h.lay
  exact ⟨⟨l0, lt_of_block s1⟩, ⟨l3, h.walked.lt⟩, ⟨l4, h.ended.lt⟩, ⟨l5, h.aborted.lt⟩, ⟨l6, h.engaged.lt⟩, k1, k4, k5, ⟨tick, bv, s1, s2, fun g hg => (s2.lt g hg).2⟩, h.walked, h.ended, h.aborted, h.engaged⟩

theorem map_same {w w' : World} {k : TypeId} {b n : Nat} {D : DataW Value} (h : w.ownsMap Try.prog k rawElem b n D) (e : w'.heap[b]? = w.heap[b]?) : w'.ownsMap Try.prog k rawElem b n D := by
  obtain ⟨es, clock, hb, h⟩ := h
  exact ⟨es, clock, e.trans hb, h⟩

theorem row_same {w w' : World} {B : Nat} {e : TypeId} {v : Value} {n : Nat} {xs : List Value} (h : w.ownsRow B e 1 v n xs) (hs : ∀ g, v.ownBlock = some g → w'.heap[g]? = w.heap[g]?) : w'.ownsRow B e 1 v n xs := by
  refine ⟨h.1, ?_⟩
  rcases h.2 with h' | ⟨g, cap, cur, rfl, hB, hh, hr⟩
  · exact .inl h'
  · exact .inr ⟨g, cap, cur, rfl, hB, (hs g rfl).trans hh, hr⟩

section
variable {B C : Nat} {L : Lay} {bg : List Int} {E : DataW Value} {fg : Int} {N : Nat} {w w' : World}

/-- The core's blocks are as they were. -/
theorem Core.same (h : Core B C L bg E fg N w) (hs : ∀ k, B ≤ k → k < C → w'.heap[k]? = w.heap[k]?) : Core B C L bg E fg N w' := by
  obtain ⟨tick, bv, s1, s2, s3⟩ := h.site
  exact ⟨h.sb, h.mK, h.mE, h.mA, h.mG, h.kE, h.eA, h.eG, ⟨tick, bv, (hs _ h.sb.1 h.sb.2).trans s1, row_same s2 (fun g hg => hs g (s2.lt g hg).1 (s3 g hg)), s3⟩,
    map_same h.walked (hs _ h.mK.1 h.mK.2), map_same h.ended (hs _ h.mE.1 h.mE.2), map_same h.aborted (hs _ h.mA.1 h.mA.2), map_same h.engaged (hs _ h.mG.1 h.mG.2)⟩

theorem Core.grown (h : Core B C L bg E fg N w) (hC : C ≤ w.heap.size) (hg : w.grownBy w' none) : Core B C L bg E fg N w' :=
  h.same fun k _ hk => hg.block k (by omega) (by simp)

/-- The ended map has turned. -/
theorem Core.turnEnded (h : Core B C L bg E fg N w) (hg : w.grownBy w' (some L.mE)) {E' : DataW Value} (hE : w'.ownsMap Try.prog 36 rawElem L.mE N E') : Core B C L bg E' fg N w' := by
  obtain ⟨tick, bv, s1, s2, s3⟩ := h.site
  have nr := notRow_owns h.ended
  exact ⟨h.sb, h.mK, h.mE, h.mA, h.mG, h.kE, h.eA, h.eG, ⟨tick, bv, block_turn s1 hg (nr _), owns_turn s2 hg (nr _), s3⟩,
    h.walked.kept hg (by simpa using h.kE), hE, h.aborted.kept hg (by simpa using Ne.symm h.eA), h.engaged.kept hg (by simpa using Ne.symm h.eG)⟩

theorem Core.set (h : Core B C L bg E fg N w) {j : Nat} {u : Value} {bg' : List Int} {fg' : Int} (hsite : ∃ tick bv, (w.setCell ⟨L.sb, j, none⟩ u).heap[L.sb]? = some (.cells (siteCells L tick bv fg') 67 (0, 0)) ∧ w.ownsRow B 29 1 bv bg'.length (bg'.map (Value.int .i64)) ∧ ∀ g, bv.ownBlock = some g → g < C) :
    Core B C L bg' E fg' N (w.setCell ⟨L.sb, j, none⟩ u) := by
  obtain ⟨tick0, bv0, s1, s2, s3⟩ := h.site
  obtain ⟨tick, bv, t1, t2, t3⟩ := hsite
  have hsetg : w.grownBy (w.setCell ⟨L.sb, j, none⟩ u) (some L.sb) := ⟨rfl, rfl, rfl, by simp [World.setCell], fun i _ hi => Below.heap_setCell _ _ _ _ (fun e => hi (by rw [e]))⟩
  have nr : ∀ e, e ≠ 67 → NotRow w L.sb e := fun e he => notRow_row s1 (Ne.symm he)
  have nm : ∀ {P : Program} {t : TypeId} {b n : Nat} {D : DataW Value}, w.ownsMap P t rawElem b n D → some b ≠ some L.sb := fun hm e => by
    injection e with e
    subst e
    exact notRow_owns hm 67 _ s1
  exact ⟨h.sb, h.mK, h.mE, h.mA, h.mG, h.kE, h.eA, h.eG, ⟨tick, bv, t1, owns_turn t2 hsetg (nr 29 (by decide)), t3⟩, h.walked.kept hsetg (nm h.walked), h.ended.kept hsetg (nm h.ended), h.aborted.kept hsetg (nm h.aborted), h.engaged.kept hsetg (nm h.engaged)⟩

theorem Core.setFg (h : Core B C L bg E fg N w) (x : Int) : Core B C L bg E x N (w.setCell ⟨L.sb, 10, none⟩ (.int .i64 x)) := by
  obtain ⟨tick, bv, s1, s2, s3⟩ := h.site
  refine h.set ⟨tick, bv, ?_, s2, s3⟩
  rw [heap_setCell_same w L.sb 10 _ 67 _ s1]
  rfl

theorem Core.turnBegun (h : Core B C L bg E fg N w) {g n cap : Nat} {bg' : List Int} (h7 : w.cell? ⟨L.sb, 7, none⟩ = some (.slice (some ⟨g, 0, none⟩) n cap)) (hg : w.grownBy w' (some g)) {m : Nat} (hm : bg'.length = m)
    (ho : w'.ownsRow B 29 1 (.slice (some ⟨g, 0, none⟩) m cap) m (bg'.map (Value.int .i64))) : Core B C L bg' E fg N (w'.setCell ⟨L.sb, 7, none⟩ (.slice (some ⟨g, 0, none⟩) m cap)) ∧ (B ≤ g ∧ g < C) ∧ L.sb ≠ g ∧ w'.frozen? ⟨L.sb, 7, none⟩ = false := by
  obtain ⟨tick, bv, s1, s2, s3⟩ := h.site
  have e7 : bv = .slice (some ⟨g, 0, none⟩) n cap := by
    have := cell_of_block (i := 7) (v := bv) s1 rfl
    rw [this] at h7
    exact Option.some.inj h7
  subst e7
  have hg2 : B ≤ g ∧ g < C := ⟨(s2.lt g rfl).1, s3 g rfl⟩
  obtain ⟨cur, hcur⟩ : ∃ cur, w.heap[g]? = some (.cells cur 29 (0, 0)) := by
    rcases s2.2 with ⟨h', _⟩ | ⟨g', cap', cur, h', _, hh, _⟩
    · cases h'
    · simp only [Value.slice.injEq, Option.some.injEq, Addr.mk.injEq, and_true] at h'
      obtain ⟨rfl, _⟩ := h'
      exact ⟨cur, hh⟩
  have nr : ∀ e, e ≠ 29 → NotRow w g e := fun e he => notRow_row hcur (Ne.symm he)
  have nm : ∀ {P : Program} {t : TypeId} {b n : Nat} {D : DataW Value}, w.ownsMap P t rawElem b n D → some b ≠ some g := fun hm e => by
    injection e with e
    subst e
    exact notRow_owns hm 29 _ hcur
  have t1 := block_turn s1 hg (nr 67 (by decide))
  subst hm
  have hsetg : w'.grownBy (w'.setCell ⟨L.sb, 7, none⟩ (.slice (some ⟨g, 0, none⟩) bg'.length cap)) (some L.sb) := ⟨rfl, rfl, rfl, by simp [World.setCell], fun i _ hi => Below.heap_setCell _ _ _ _ (fun e => hi (by rw [e]))⟩
  have nr2 : ∀ e, e ≠ 67 → NotRow w' L.sb e := fun e he => notRow_row t1 (Ne.symm he)
  have nm2 : ∀ {P : Program} {t : TypeId} {b n : Nat} {D : DataW Value}, w'.ownsMap P t rawElem b n D → some b ≠ some L.sb := fun hm e => by
    injection e with e
    subst e
    exact notRow_owns hm 67 _ t1
  have k1 := h.walked.kept hg (nm h.walked)
  have k2 := h.ended.kept hg (nm h.ended)
  have k3 := h.aborted.kept hg (nm h.aborted)
  have k4 := h.engaged.kept hg (nm h.engaged)
  refine ⟨⟨h.sb, h.mK, h.mE, h.mA, h.mG, h.kE, h.eA, h.eG, ⟨tick, .slice (some ⟨g, 0, none⟩) bg'.length cap, ?_, owns_turn ho hsetg (nr2 29 (by decide)), fun g' hg' => by simp only [Value.ownBlock, Option.some.injEq] at hg'; omega⟩, k1.kept hsetg (nm2 k1), k2.kept hsetg (nm2 k2), k3.kept hsetg (nm2 k3), k4.kept hsetg (nm2 k4)⟩, hg2, (fun e => by rw [← e, s1] at hcur; cases hcur), frozen_of_block t1⟩
  rw [heap_setCell_same w' L.sb 7 _ 67 _ t1]
  rfl

theorem Core.cells (h : Core B C L bg E fg N w) : ∃ bv, w.cell? ⟨L.sb, 5, none⟩ = some (.map (some L.mK)) ∧ w.cell? ⟨L.sb, 6, none⟩ = some (.map (some L.mE)) ∧ w.cell? ⟨L.sb, 7, none⟩ = some bv ∧ w.cell? ⟨L.sb, 8, none⟩ = some (.map (some L.mA)) ∧ w.cell? ⟨L.sb, 9, none⟩ = some (.map (some L.mG)) ∧ w.cell? ⟨L.sb, 10, none⟩ = some (.int .i64 fg) ∧
    w.ownsRow B 29 1 bv bg.length (bg.map (Value.int .i64)) ∧ ∀ j, w.frozen? ⟨L.sb, j, none⟩ = false := by
  obtain ⟨tick, bv, s1, s2, s3⟩ := h.site
  exact ⟨bv, cell_of_block s1 rfl, cell_of_block s1 rfl, cell_of_block s1 rfl, cell_of_block s1 rfl, cell_of_block s1 rfl, cell_of_block s1 rfl, s2, fun j => frozen_of_block s1⟩
end

end Go.Proofs.Qxb6609132a
