import Derived.Test.Qxb6609132aClone
import Derived.Laws.EntriesVeiled
import Derived.Maps.OwnSet
import Derived.DeepKeys4
namespace Go.Proofs.Qxb6609132a
open Go.RowKit Go.Maps Go.MapKept Go.WideMaps

theorem eql_nilFunc (w : World) : (binOp .eql 37 .nilFunc .nilFunc).run Try.prog w = .ok (.bool true) w := by kernel_rfl
theorem laidOut : laidOutB Try.prog = true := by kernel_rfl
theorem law9 : Keyed Try.prog 9 := string_keyed Try.underlying9
theorem zero70 (w : World) : (zeroValue 70).run Try.prog w = .ok (.agg #[.int .i64 0, .slice none 0 0, .int .i64 0]) w := by kernel_rfl

/-- An element of a map, read as itself. -/
def rawElem (v : Value) : Option (DataW Value × List MemPlace) := some (.held v, [])

def keyS (q : ByteArray) : Lit := .string q.data.toList
theorem keyS_inj {p q : ByteArray} (h : keyS p = keyS q) : p = q := by
  unfold keyS at h
  injection h with h
  cases p; cases q
  simp at h
  simp [h]
theorem keyS_isKey (q : ByteArray) : WideAt.IsKeyLit (keyS q) := trivial
theorem keyOf9 {q : ByteArray} (h : q.size ≤ maxLen) : keyOf Try.prog 9 (.string q) = some (keyS q) := keyOf_string_mk Try.underlying9 h

/-- A wait's zero value. -/
def zw : Value := .agg #[.int .i64 0, .slice none 0 0, .int .i64 0]

/-- What a script's wait leaves. -/
structure Rec where
  model : Int
  on : List ByteArray
  began : Int

def recVal (r : Rec) (v : Value) : Value := .agg #[.int .i64 r.model, v, .int .i64 r.began]

/-- The value of a wait: a struct of three, whose list lies in memory of the call's own. -/
def RecIs (B : Nat) (w : World) (x : Value) (r : Rec) : Prop :=
  ∃ g c, x = recVal r (.slice (some ⟨g, 0, none⟩) r.on.length c) ∧ w.ownsRow B 9 1 (.slice (some ⟨g, 0, none⟩) r.on.length c) r.on.length (r.on.map Value.string)

def WaitsAre (B : Nat) (w : World) (D : DataW Value) (f : ByteArray → Option Rec) : Prop :=
  ∀ q, (f q = none → Maps.has D (keyS q) = false) ∧ ∀ r, f q = some r → Maps.has D (keyS q) = true ∧ ∃ x, D.atKey (keyS q) (.held zw) = .held x ∧ RecIs B w x r

/-- Where the parts of a site lie. -/
structure Lay where
  sb : Nat
  bx : Nat
  mW : Nat
  mK : Nat
  mE : Nat
  mA : Nat
  mG : Nat

def Lay.ok (L : Lay) (B : Nat) : Prop :=
  B ≤ L.sb ∧ B ≤ L.bx ∧ B ≤ L.mW ∧ B ≤ L.mK ∧ B ≤ L.mE ∧ B ≤ L.mA ∧ B ≤ L.mG ∧ L.mW ≠ L.mK ∧ L.mW ≠ L.mE ∧ L.mW ≠ L.mA ∧ L.mW ≠ L.mG ∧ L.mK ≠ L.mE ∧ L.mK ≠ L.mA ∧ L.mK ≠ L.mG ∧ L.mE ≠ L.mA ∧ L.mE ≠ L.mG ∧ L.mA ≠ L.mG

def siteCells (L : Lay) (tick : Int) (bv : Value) (fg : Int) : Array Value :=
  #[.func (.func 37) #[] #[.pointer (some ⟨L.bx, 0, none⟩)], .int .i64 tick, .func (.func 54) #[] #[], .func (.func 54) #[] #[], .map (some L.mW), .map (some L.mK), .map (some L.mE), bv, .map (some L.mA), .map (some L.mG), .int .i64 fg]

/-- The site lies in memory: its locals ls, its waits f, its begun moments bg, its finished detections E, what it has forgotten fg. -/
structure Inv (B : Nat) (L : Lay) (tick : Int) (ls : List ByteArray) (N : Nat) (f : ByteArray → Option Rec) (bg : List Int) (E : DataW Value) (fg : Int) (w : World) : Prop where
  lay : L.ok B
  site : ∃ bv, w.heap[L.sb]? = some (.cells (siteCells L tick bv fg) 67 (0, 0)) ∧ w.ownsRow B 29 1 bv bg.length (bg.map (Value.int .i64))
  box : ∃ a c, w.heap[L.bx]? = some (.cells #[.slice a ls.length c] 22 (0, 0)) ∧ w.ownsRow B 9 1 (.slice a ls.length c) ls.length (ls.map Value.string)
  waits : ∃ D, w.ownsMap Try.prog 9 rawElem L.mW N D ∧ WaitsAre B w D f
  walked : w.ownsMap Try.prog 36 rawElem L.mK 0 (.map [])
  ended : w.ownsMap Try.prog 36 rawElem L.mE N E
  aborted : w.ownsMap Try.prog 9 rawElem L.mA 0 (.map [])
  engaged : w.ownsMap Try.prog 86 rawElem L.mG 0 (.map [])

theorem lt_of_block {w : World} {k : Nat} {o : Obj} (h : w.heap[k]? = some o) : k < w.heap.size := (Array.getElem?_eq_some_iff.1 h).1

theorem owns_kept {w w' : World} {B : Nat} {e : TypeId} {s : Nat} {v : Value} {n : Nat} {xs : List Value} (h : w.ownsRow B e s v n xs) (hg : w.grownBy w' none) : w'.ownsRow B e s v n xs :=
  h.kept hg (by cases v.ownBlock <;> simp)

theorem RecIs.kept {B : Nat} {w w' : World} {x : Value} {r : Rec} (h : RecIs B w x r) (hg : w.grownBy w' none) : RecIs B w' x r := by
  obtain ⟨g, c, e, ho⟩ := h
  exact ⟨g, c, e, owns_kept ho hg⟩

theorem WaitsAre.kept {B : Nat} {w w' : World} {D : DataW Value} {f : ByteArray → Option Rec} (h : WaitsAre B w D f) (hg : w.grownBy w' none) : WaitsAre B w' D f := by
  intro q
  refine ⟨(h q).1, fun r hr => ?_⟩
  obtain ⟨h1, x, h2, h3⟩ := (h q).2 r hr
  exact ⟨h1, x, h2, h3.kept hg⟩

theorem block_kept {w w' : World} {k : Nat} {o : Obj} (h : w.heap[k]? = some o) (hg : w.grownBy w' none) : w'.heap[k]? = some o :=
  (hg.block k (lt_of_block h) (by simp)).trans h

/-- New memory alone: the site is as it was. -/
theorem Inv.kept {B : Nat} {L : Lay} {tick : Int} {ls : List ByteArray} {N : Nat} {f : ByteArray → Option Rec} {bg : List Int} {E : DataW Value} {fg : Int} {w w' : World}
    (h : Inv B L tick ls N f bg E fg w) (hg : w.grownBy w' none) : Inv B L tick ls N f bg E fg w' := by
  obtain ⟨bv, s1, s2⟩ := h.site
  obtain ⟨a, c, b1, b2⟩ := h.box
  obtain ⟨D, d1, d2⟩ := h.waits
  exact ⟨h.lay, ⟨bv, block_kept s1 hg, owns_kept s2 hg⟩, ⟨a, c, block_kept b1 hg, owns_kept b2 hg⟩, ⟨D, d1.kept hg (by simp), d2.kept hg⟩,
    h.walked.kept hg (by simp), h.ended.kept hg (by simp), h.aborted.kept hg (by simp), h.engaged.kept hg (by simp)⟩

theorem grown_drew (w : World) : w.grownBy w.drew none := ⟨rfl, rfl, rfl, Nat.le_refl _, fun _ _ _ => rfl⟩
theorem grown_trans {a b c : World} (h : a.grownBy b none) (k : b.grownBy c none) : a.grownBy c none :=
  ⟨k.os.trans h.os, k.tape.trans h.tape, k.output.trans h.output, Nat.le_trans h.size k.size, fun i hi hn => (k.block i (Nat.lt_of_lt_of_le hi h.size) hn).trans (h.block i hi hn)⟩
theorem grown_alloc {a b : World} (h : a.grownBy b none) (o : Obj) : a.grownBy (b.alloc o) none := grown_trans h (World.grownBy_alloc b o none)
theorem grown_below {a b : World} (h : a.grownBy b none) {B : Nat} (hB : B ≤ a.heap.size) : Below B a b := (Below.refl B a).grown h hB (fun k e => by cases e)

theorem at_new {w : World} {o : Obj} {k : Nat} (h : k = w.heap.size) : (w.alloc o).heap[k]? = some o := by subst h; exact Go.heap_alloc_new w o
theorem at_old {w : World} {o x : Obj} {k : Nat} (h : w.heap[k]? = some x) : (w.alloc o).heap[k]? = some x := by rw [Below.heap_alloc w o k (lt_of_block h)]; exact h
theorem fit_empty (k : TypeId) : WideElems.Fit Try.prog k rawElem #[] 0 := ⟨by simp, stamped_empty 0, by simp⟩
theorem owns_empty {w : World} {b : Nat} (k : TypeId) (h : w.heap[b]? = some (.map #[] 0)) : w.ownsMap Try.prog k rawElem b 0 (.map []) :=
  ⟨#[], 0, h, fit_empty k, Nat.le_refl _, rfl⟩

set_option maxRecDepth 20000 in
set_option maxHeartbeats 400000 in
theorem newSite_any (B : Nat) (a : Option Addr) (c : Nat) (ls : List ByteArray) (t : Int) (w : World) (hB : B ≤ w.heap.size) (hown : w.ownsRow B 9 1 (.slice a ls.length c) ls.length (ls.map Value.string)) :
    Calls Try.prog 12 #[.slice a ls.length c, .int .i64 t] w fun e w' => ∃ L, e = .returned (.pointer (some ⟨L.sb, 0, none⟩)) ∧ Inv B L t ls 0 (fun _ => none) [] (.map []) 0 w' ∧ w.grownBy w' none := by
  have hmm := @run_makeMap Try.prog
  have hnf := eql_nilFunc
  have HO : Hid (w.ownsRow B 9 1 (.slice a ls.length c) ls.length (ls.map Value.string)) := hown
  clear hown
  go_enter Try.func12, Try.ntmps12
  go_wp2
  go_ret
  have hg : w.grownBy (((((((w.alloc (Obj.cells #[Value.slice a ls.length c] 22)).alloc (Obj.map #[] 0)).alloc (Obj.map #[] 0)).alloc (Obj.map #[] 0)).alloc (Obj.map #[] 0)).alloc (Obj.map #[] 0)).alloc
      (Obj.cells (siteCells ⟨w.heap.size + 6, w.heap.size, w.heap.size + 1, w.heap.size + 2, w.heap.size + 3, w.heap.size + 4, w.heap.size + 5⟩ t (.slice none 0 0) 0) 67)) none :=
    grown_alloc (grown_alloc (grown_alloc (grown_alloc (grown_alloc (grown_alloc (grown_alloc (World.grownBy.refl w none) _) _) _) _) _) _) _
  refine ⟨⟨w.heap.size + 6, w.heap.size, w.heap.size + 1, w.heap.size + 2, w.heap.size + 3, w.heap.size + 4, w.heap.size + 5⟩, rfl, ⟨?_, ?_, ?_, ?_, ?_, ?_, ?_, ?_⟩, hg⟩
  · unfold Lay.ok; dsimp only; omega
  · exact ⟨.slice none 0 0, at_new (by simp), World.ownsRow_nil _ _ _ _⟩
  · exact ⟨a, c, at_old (at_old (at_old (at_old (at_old (at_old (at_new (by simp))))))), owns_kept HO.out hg⟩
  · refine ⟨.map [], owns_empty 9 (at_old (at_old (at_old (at_old (at_old (at_new (by simp))))))), fun q => ⟨fun _ => rfl, fun r hr => by cases hr⟩⟩
  · exact owns_empty 36 (at_old (at_old (at_old (at_old (at_new (by simp))))))
  · exact owns_empty 36 (at_old (at_old (at_old (at_new (by simp)))))
  · exact owns_empty 9 (at_old (at_old (at_new (by simp))))
  · exact owns_empty 86 (at_old (at_new (by simp)))

end Go.Proofs.Qxb6609132a
