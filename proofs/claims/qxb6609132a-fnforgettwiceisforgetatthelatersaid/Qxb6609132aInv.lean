import Derived.Test.Qxb6609132aInsert2
import Derived.Test.Qxb6609132aFollow
namespace Go.Proofs.Qxb6609132a
open Go.RowKit Go.Maps

/-- Block r is no row of elements e. -/
def NotRow (w : World) (r : Nat) (e : TypeId) : Prop := ∀ cur, w.heap[r]? ≠ some (.cells cur e (0, 0))

theorem notRow_map {w : World} {r : Nat} {es : Array MapEntry} {ck : Nat} (h : w.heap[r]? = some (.map es ck)) (e : TypeId) : NotRow w r e := fun cur h' => by rw [h] at h'; cases h'
theorem notRow_row {w : World} {r : Nat} {cur : Array Value} {e' : TypeId} {fr : Nat × Nat} (h : w.heap[r]? = some (.cells cur e' fr)) {e : TypeId} (hne : e' ≠ e) : NotRow w r e := fun cur' h' => by
  rw [h] at h'
  injection h' with h'
  injection h' with _ h2 _
  exact hne h2
theorem notRow_owns {w : World} {r : Nat} {P : Program} {k : TypeId} {n : Nat} {D : DataW Value} (h : w.ownsMap P k rawElem r n D) (e : TypeId) : NotRow w r e := by
  obtain ⟨es, ck, h1, _⟩ := h
  exact notRow_map h1 e

theorem owns_turn {w w' : World} {B : Nat} {e : TypeId} {s : Nat} {v : Value} {n : Nat} {xs : List Value} {r : Nat} (h : w.ownsRow B e s v n xs) (hg : w.grownBy w' (some r)) (hr : NotRow w r e) : w'.ownsRow B e s v n xs := by
  refine h.kept hg ?_
  rcases h.2 with ⟨rfl, _⟩ | ⟨g, cap, cur, rfl, _, hh, _⟩
  · exact .inl rfl
  · right
    intro e'
    simp only [Value.ownBlock, Option.some.injEq] at e'
    subst e'
    exact hr cur hh

theorem block_turn {w w' : World} {k r : Nat} {cs : Array Value} {e : TypeId} (h : w.heap[k]? = some (.cells cs e (0, 0))) (hg : w.grownBy w' (some r)) (hr : NotRow w r e) : w'.heap[k]? = some (.cells cs e (0, 0)) :=
  (hg.block k (lt_of_block h) (fun e' => by injection e' with e'; subst e'; exact hr cs h)).trans h

theorem waits_turn {B : Nat} {w w' : World} {D : DataW Value} {f : ByteArray → Option Rec} {r : Nat} (h : WaitsAre B w D f) (hg : w.grownBy w' (some r)) (hr : NotRow w r 9) : WaitsAre B w' D f := by
  intro q
  refine ⟨(h q).1, fun r' hr' => ?_⟩
  obtain ⟨h1, x, h2, g, c, h3, h4⟩ := (h q).2 r' hr'
  exact ⟨h1, x, h2, g, c, h3, owns_turn h4 hg hr⟩

/-- Rows other than of moments and of sites are as they were. -/
def RowsKept (w w' : World) : Prop := ∀ (k : Nat) (cur : Array Value) (e : TypeId), e ≠ 29 → e ≠ 67 → w.heap[k]? = some (.cells cur e (0, 0)) → w'.heap[k]? = some (.cells cur e (0, 0))
theorem RowsKept.refl (w : World) : RowsKept w w := fun _ _ _ _ _ h => h
theorem RowsKept.trans {a b c : World} (h : RowsKept a b) (k : RowsKept b c) : RowsKept a c := fun i cur e h1 h2 h3 => k i cur e h1 h2 (h i cur e h1 h2 h3)
theorem rowsKept_grown {a b : World} (h : a.grownBy b none) : RowsKept a b := fun _ _ _ _ _ h' => block_kept h' h
theorem rowsKept_map {a b : World} {r : Nat} (h : a.grownBy b (some r)) (hr : ∀ e, NotRow a r e) : RowsKept a b := fun _ _ e _ _ h' => block_turn h' h (hr e)

def upd (f : ByteArray → Option Rec) (p : ByteArray) (r : Option Rec) : ByteArray → Option Rec := fun q => if (q.toList == p.toList) = true then r else f q
theorem upd_same (f : ByteArray → Option Rec) (p : ByteArray) (r : Option Rec) : upd f p r p = r := by simp [upd]
theorem upd_other (f : ByteArray → Option Rec) {p q : ByteArray} (r : Option Rec) (h : q ≠ p) : upd f p r q = f q := by unfold upd; rw [str_other h]; simp

theorem waits_put {B : Nat} {w : World} {D : DataW Value} {f : ByteArray → Option Rec} (h : WaitsAre B w D f) (hD : Maps.IsMap D) (p : ByteArray) {x : Value} {r : Rec} (hx : RecIs B w x r) : WaitsAre B w (D.put (keyS p) (.held x)) (upd f p (some r)) := by
  intro q
  by_cases e : q = p
  · subst e
    rw [upd_same]
    refine ⟨(fun h' => (nomatch h')), fun r' hr' => ?_⟩
    injection hr' with hr'
    subst hr'
    exact ⟨Maps.has_put_same hD (keyS_isKey q) _, x, Maps.atKey_put_same hD (keyS_isKey q) _ _, hx⟩
  · rw [upd_other f _ e]
    have hk : keyS q ≠ keyS p := fun h' => e (keyS_inj h')
    rw [Maps.has_put_other hk, Maps.atKey_put_other hk]
    exact h q

theorem waits_del {B : Nat} {w : World} {D : DataW Value} {f : ByteArray → Option Rec} (h : WaitsAre B w D f) (p : ByteArray) : WaitsAre B w (D.del (keyS p)) (upd f p none) := by
  intro q
  by_cases e : q = p
  · subst e
    rw [upd_same]
    exact ⟨fun _ => Maps.has_del_same, fun r' hr' => by cases hr'⟩
  · rw [upd_other f _ e]
    have hk : keyS q ≠ keyS p := fun h' => e (keyS_inj h')
    rw [Maps.has_del_other hk, Maps.atKey_del_other hk]
    exact h q

section
variable {B : Nat} {L : Lay} {tick : Int} {ls : List ByteArray} {N : Nat} {f : ByteArray → Option Rec} {bg : List Int} {E : DataW Value} {fg : Int} {w : World}

/-- The waits map alone has turned. -/
theorem Inv.waitsTurn (h : Inv B L tick ls N f bg E fg w) {w' : World} (hg : w.grownBy w' (some L.mW)) {N' : Nat} (hN : N ≤ N') {f' : ByteArray → Option Rec} {D' : DataW Value} (hD : w'.ownsMap Try.prog 9 rawElem L.mW N' D') (hf : WaitsAre B w D' f') :
    Inv B L tick ls N' f' bg E fg w' := by
  obtain ⟨bv, s1, s2⟩ := h.site
  obtain ⟨a, c, b1, b2⟩ := h.box
  obtain ⟨D, d1, d2⟩ := h.waits
  have nr := notRow_owns d1
  obtain ⟨_, _, _, _, _, _, _, l1, l2, l3, l4, _⟩ := h.lay
  exact ⟨h.lay, ⟨bv, block_turn s1 hg (nr _), owns_turn s2 hg (nr _)⟩, ⟨a, c, block_turn b1 hg (nr _), owns_turn b2 hg (nr _)⟩, ⟨D', hD, waits_turn hf hg (nr _)⟩,
    h.walked.kept hg (by simpa using Ne.symm l1), (h.ended.kept hg (by simpa using Ne.symm l2)).mono hN, h.aborted.kept hg (by simpa using Ne.symm l3), h.engaged.kept hg (by simpa using Ne.symm l4)⟩

theorem Inv.put (h : Inv B L tick ls N f bg E fg w) (hN : N < maxLen) {p : ByteArray} (hp : p.size ≤ maxLen) {x : Value} {r : Rec} (hx : RecIs B w x r) :
    ∃ w', (Instr.mapUpdate 62 (.map (some L.mW)) (.string p) x).run Try.prog w = .ok () w' ∧ Inv B L tick ls (N + 1) (upd f p (some r)) bg E fg w' ∧ w.grownBy w' (some L.mW) := by
  obtain ⟨D, d1, d2⟩ := h.waits
  obtain ⟨w', hrun, o1, g1⟩ := d1.update law9 Try.underlying62 hN (keyOf9 hp) (val := x) (d := .held x) (ps := []) rfl
  exact ⟨w', hrun, h.waitsTurn g1 (Nat.le_succ _) o1 (waits_put d2 d1.isMap p hx), g1⟩

theorem Inv.del (h : Inv B L tick ls N f bg E fg w) {p : ByteArray} (hp : p.size ≤ maxLen) (ty : TypeId) :
    ∃ w', (Builtin.delete_ #[62, 9] ty #[.map (some L.mW), .string p]).run Try.prog w = .ok (.tuple #[]) w' ∧ Inv B L tick ls N (upd f p none) bg E fg w' ∧ w.grownBy w' (some L.mW) := by
  obtain ⟨D, d1, d2⟩ := h.waits
  obtain ⟨w', hrun, o1, g1⟩ := d1.drop law9 Try.underlying62 (keyOf9 hp) ty
  exact ⟨w', hrun, h.waitsTurn g1.grown (Nat.le_refl _) o1 (waits_del d2 p), g1.grown⟩

/-- The begun list has been laid anew: a row has turned, and the site's field. -/
theorem Inv.begunTurn (h : Inv B L tick ls N f bg E fg w) {w' : World} {bv bv' : Value} (hs : w.heap[L.sb]? = some (.cells (siteCells L tick bv fg) 67 (0, 0))) (hbv : w.ownsRow B 29 1 bv bg.length (bg.map (Value.int .i64)))
    (hg : w.grownBy w' bv.ownBlock) {bg' : List Int} (ho : w'.ownsRow B 29 1 bv' bg'.length (bg'.map (Value.int .i64))) (hB : B ≤ w.heap.size) :
    Inv B L tick ls N f bg' E fg (w'.setCell ⟨L.sb, 7, none⟩ bv') ∧ Below B w (w'.setCell ⟨L.sb, 7, none⟩ bv') ∧ w'.heap[L.sb]? = some (.cells (siteCells L tick bv fg) 67 (0, 0)) ∧ RowsKept w (w'.setCell ⟨L.sb, 7, none⟩ bv') := by
  obtain ⟨a, c, b1, b2⟩ := h.box
  obtain ⟨D, d1, d2⟩ := h.waits
  have hlay := h.lay
  have key : ∃ k, w.grownBy w' (some k) ∧ B ≤ k ∧ (k < w.heap.size → ∃ cur, w.heap[k]? = some (.cells cur 29 (0, 0))) := by
    rcases hbv.2 with ⟨rfl, _⟩ | ⟨g, cap, cur, rfl, hBg, hh, _⟩
    · exact ⟨w.heap.size, grown_weaken hg, hB, fun hk => absurd hk (Nat.lt_irrefl _)⟩
    · exact ⟨g, hg, hBg, fun _ => ⟨cur, hh⟩⟩
  obtain ⟨k, hgk, hBk, hk⟩ := key
  have nr : ∀ e, e ≠ 29 → NotRow w k e := fun e he cur' h' => by
    obtain ⟨cur, hc⟩ := hk (lt_of_block h')
    exact notRow_row hc (Ne.symm he) cur' h'
  have nm : ∀ {P : Program} {t : TypeId} {b n : Nat} {D : DataW Value}, w.ownsMap P t rawElem b n D → some b ≠ some k := fun hm e => by
    injection e with e
    subst e
    obtain ⟨cur, hc⟩ := hk hm.lt
    exact notRow_owns hm 29 cur hc
  have s1 := block_turn hs hgk (nr 67 (by decide))
  have hsetg : w'.grownBy (w'.setCell ⟨L.sb, 7, none⟩ bv') (some L.sb) := ⟨rfl, rfl, rfl, by simp [World.setCell], fun i _ hi => Below.heap_setCell _ _ _ _ (fun e => hi (by rw [e]))⟩
  have nr2 : ∀ e, e ≠ 67 → NotRow w' L.sb e := fun e he => notRow_row s1 (Ne.symm he)
  have nm2 : ∀ {P : Program} {t : TypeId} {b n : Nat} {D : DataW Value}, w'.ownsMap P t rawElem b n D → some b ≠ some L.sb := fun hm e => by
    injection e with e
    subst e
    exact notRow_owns hm 67 _ s1
  have d1' := d1.kept hgk (nm d1)
  have w1' := h.walked.kept hgk (nm h.walked)
  have e1' := h.ended.kept hgk (nm h.ended)
  have a1' := h.aborted.kept hgk (nm h.aborted)
  have g1' := h.engaged.kept hgk (nm h.engaged)
  refine ⟨⟨h.lay, ⟨bv', ?_, owns_turn ho hsetg (nr2 29 (by decide))⟩, ⟨a, c, block_turn (block_turn b1 hgk (nr 22 (by decide))) hsetg (nr2 22 (by decide)), owns_turn (owns_turn b2 hgk (nr 9 (by decide))) hsetg (nr2 9 (by decide))⟩,
    ⟨D, d1'.kept hsetg (nm2 d1'), waits_turn (waits_turn d2 hgk (nr 9 (by decide))) hsetg (nr2 9 (by decide))⟩,
    w1'.kept hsetg (nm2 w1'), e1'.kept hsetg (nm2 e1'), a1'.kept hsetg (nm2 a1'), g1'.kept hsetg (nm2 g1')⟩, ?_, s1, fun i cur e h1 h2 h3 => block_turn (block_turn h3 hgk (nr e h1)) hsetg (nr2 e h2)⟩
  · have := heap_setCell_same w' L.sb 7 _ 67 bv' s1
    rw [this]
    rfl
  · exact (((Below.refl B w).grown hgk hB (fun j e => by injection e with e; omega))).setCell (show B ≤ L.sb from hlay.1) _

end

end Go.Proofs.Qxb6609132a
