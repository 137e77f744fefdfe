import Derived.Test.Qxb6609132aHas
namespace Go.Proofs.Qxb6609132a
open Go.RowKit Go.Maps

section
variable {P : Program} (w : World) {ops : Array Oper} {rest : List Oper} {o : Oper} {a : Act} {Q : Exit → Act → World → Prop}

/-- 'v, ok := m[k]', the element read as itself. -/
theorem wpList_lookup_raw_ok (hg : o.guard = none) (m x : Operand) (t : TypeId) (hop : o.op = Op.lookup t m x true)
    (k e : TypeId) (K : Keyed P k) (ht : P.underlying t = some (.map k e)) {z : Value} (hz : (zeroValue e).run P w = .ok z w) (b n : Nat) (D : DataW Value)
    (hm : a.eval m = .map (some b)) (hown : w.ownsMap P k rawElem b n D) (key : Value) (kl : Lit) (hx : a.eval x = key) (hkey : keyOf P k key = some kl) (v0 : Value) (hat : D.atKey kl (.held z) = .held v0)
    (hK : wpList P ops Q rest (a.put o.dst (.tuple #[v0, .bool (Maps.has D kl)])) w) :
    wpList P ops Q (o :: rest) a w :=
  wpList_lookup_own_ok w hg m x t hop k e K ht rawElem hz (.held z) [] rfl b n D hm hown key kl hx hkey (fun v ps hv => by
    rw [hat] at hv
    unfold rawElem at hv
    injection hv with hv
    injection hv with h1 h2
    injection h1 with h1
    subst h1
    exact hK)

/-- 'm[k]', the element read as itself. -/
theorem wpList_lookup_raw (hg : o.guard = none) (m x : Operand) (t : TypeId) (hop : o.op = Op.lookup t m x false)
    (k e : TypeId) (K : Keyed P k) (ht : P.underlying t = some (.map k e)) {z : Value} (hz : (zeroValue e).run P w = .ok z w) (b n : Nat) (D : DataW Value)
    (hm : a.eval m = .map (some b)) (hown : w.ownsMap P k rawElem b n D) (key : Value) (kl : Lit) (hx : a.eval x = key) (hkey : keyOf P k key = some kl) (v0 : Value) (hat : D.atKey kl (.held z) = .held v0)
    (hK : wpList P ops Q rest (a.put o.dst v0) w) :
    wpList P ops Q (o :: rest) a w := by
  refine wpList_plain hg fun K' hK' => ?_
  obtain ⟨v, ps, hrun, hv⟩ := hown.lookup K ht hz (zd := .held z) (zp := []) rfl hkey
  have e : v = v0 := by
    rw [hat] at hv
    unfold rawElem at hv
    injection hv with hv
    injection hv with h1 h2
    injection h1
  subst e
  unfold Oper.wp
  simp [execOp, hop, hm, hx, hrun, Result.andThen]
  exact hK' _ _ hK
end

theorem cell_of_block {w : World} {k i : Nat} {cs : Array Value} {e : TypeId} {v : Value} (h : w.heap[k]? = some (.cells cs e (0, 0))) (hi : cs[i]? = some v) : w.cell? ⟨k, i, none⟩ = some v := by
  simp [World.cell?, h, hi]
theorem frozen_of_block {w : World} {k i : Nat} {cs : Array Value} {e : TypeId} (h : w.heap[k]? = some (.cells cs e (0, 0))) : w.frozen? ⟨k, i, none⟩ = false := by
  simp [World.frozen?, h]

theorem strs_of_owns {w : World} {B : Nat} {a : Option Addr} {c : Nat} {ls : List ByteArray} (h : w.ownsRow B 9 1 (.slice a ls.length c) ls.length (ls.map Value.string)) : Strs w a ls := by
  rcases h.2 with ⟨h1, h2⟩ | ⟨g, cap, cur, hv, _⟩
  · left; exact List.length_eq_zero_iff.1 h2
  · right
    injection hv with e1 e2 e3
    subst e1
    refine ⟨g, 0, rfl, fun i hi => ?_⟩
    have := h.cells (g := g) rfl i (.string (ls.getD i ByteArray.empty)) (by simp [hi])
    rw [Addr.add_lit] at this
    exact this

theorem WaitsAre.look {B : Nat} {w : World} {D : DataW Value} {f : ByteArray → Option Rec} (h : WaitsAre B w D f) (p : ByteArray) :
    ∃ m va vn vc b, D.atKey (keyS p) (.held zw) = .held (.agg #[.int .i64 m, .slice va vn vc, .int .i64 b]) ∧ Maps.has D (keyS p) = (f p).isSome ∧
      ∀ r, f p = some r → m = r.model ∧ b = r.began ∧ vn = r.on.length ∧ va.isNone = false ∧ w.ownsRow B 9 1 (.slice va vn vc) r.on.length (r.on.map Value.string) := by
  cases hf : f p with
  | none =>
    have h0 := (h p).1 hf
    refine ⟨0, none, 0, 0, 0, ?_, by simpa using h0, fun r hr => by cases hr⟩
    rw [Maps.atKey_of_not_has h0]; rfl
  | some r =>
    obtain ⟨h1, x, h2, g, c, rfl, h3⟩ := (h p).2 r hf
    refine ⟨r.model, some ⟨g, 0, none⟩, r.on.length, c, r.began, h2, by simpa using h1, fun r' hr => ?_⟩
    injection hr with hr
    subst hr
    exact ⟨rfl, rfl, rfl, rfl, h3⟩

set_option maxHeartbeats 400000 in
theorem local_any (bx : Nat) (a : Option Addr) (c : Nat) (ls : List ByteArray) (p : ByteArray) (w : World) (hm : ls.length ≤ 9223372036854775807) (hs : Strs w a ls) (hb : w.cell? ⟨bx, 0, none⟩ = some (.slice a ls.length c)) :
    Calls Try.prog 37 #[.string p, .pointer (some ⟨bx, 0, none⟩)] w fun e w' => e = .returned (.bool (hasS ls p)) ∧ w' = w := by
  go_enter Try.func37, Try.ntmps37
  go_wp2_with fail
  refine (contains_any a ls c p _ hm hs).mono ?_
  rintro e w' ⟨rfl, rfl⟩
  go_wp2_with fail
  go_ret
  exact ⟨rfl, rfl⟩

theorem Strs.kept {w w' : World} {a : Option Addr} {ss : List ByteArray} (h : Strs w a ss) (hg : w.grownBy w' none) : Strs w' a ss := by
  rcases h with h | ⟨b, off, e, hc⟩
  · exact .inl h
  · exact .inr ⟨b, off, e, fun i hi => hg.cell (hc i hi) (by simp)⟩

set_option maxHeartbeats 400000 in
theorem blocked_any {B : Nat} {L : Lay} {tick : Int} {ls : List ByteArray} {N : Nat} {f : ByteArray → Option Rec} {bg : List Int} {E : DataW Value} {fg : Int} (w : World)
    (h : Inv B L tick ls N f bg E fg w) (hm : ls.length ≤ 9223372036854775807) (p : ByteArray) (hp : p.size ≤ maxLen) :
    Calls Try.prog 18 #[.pointer (some ⟨L.sb, 0, none⟩), .string p] w fun e w' => e = .returned (.bool (hasS ls p && (f p).isSome)) ∧ w.grownBy w' none := by
  obtain ⟨bv, s1, _⟩ := h.site
  obtain ⟨ao, c, b1, b2⟩ := h.box
  obtain ⟨D, d1, d2⟩ := h.waits
  obtain ⟨m, va, vn, vc, b, k1, k2, _⟩ := d2.look p
  clear h d2
  have hs := strs_of_owns b2
  clear b2
  obtain ⟨sb, bx, mW, mK, mE, mA, mG⟩ := L
  dsimp only at *
  have c4 : w.cell? ⟨sb, 4, none⟩ = some (.map (some mW)) := cell_of_block s1 rfl
  have c0 : w.cell? ⟨sb, 0, none⟩ = some (.func (.func 37) #[] #[.pointer (some ⟨bx, 0, none⟩)]) := cell_of_block s1 rfl
  have cb : w.cell? ⟨bx, 0, none⟩ = some (.slice ao ls.length c) := cell_of_block b1 rfl
  have hsb := lt_of_block s1
  have hbx := lt_of_block b1
  have K2 : Hid (Maps.has D (keyS p) = (f p).isSome) := k2
  have K1 : Hid (D.atKey (keyS p) (.held zw) = .held (.agg #[.int .i64 m, .slice va vn vc, .int .i64 b])) := k1
  have HS : Hid (∀ o, Strs (w.alloc o) ao ls) := fun o => hs.kept (World.grownBy_alloc w o none)
  clear s1 b1 k2 k1 hs
  cases hb : hasS ls p
  all_goals
    go_enter Try.func18, Try.ntmps18
    go_wp2_with (at_lookup; refine wpList_lookup_raw_ok _ rfl _ _ 62 rfl 9 70 law9 Try.underlying62 (zero70 _) mW N D rfl d1 _ _ rfl (keyOf9 hp) _ K1.out ?_)
    refine (local_any bx ao c ls p _ hm (HS.out _) (by rw [World.cell?_alloc_lt _ _ _ hbx]; exact cb)).mono ?_
    rintro e w' ⟨rfl, rfl⟩
    go_wp2_with fail
    go_ret
    exact ⟨by simp [K2.out], World.grownBy_alloc w _ none⟩

end Go.Proofs.Qxb6609132a
