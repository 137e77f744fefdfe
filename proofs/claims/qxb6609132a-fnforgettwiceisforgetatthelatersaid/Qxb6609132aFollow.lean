import Derived.Test.Qxb6609132aReads
namespace Go.Proofs.Qxb6609132a
open Go.RowKit Go.Maps

def limOf (p ini : ByteArray) (d h : Int) : Int := if (p.toList == ini.toList) = true then d else h
def folB (o : Option Rec) (lim : Int) : Bool := match o with | none => false | some r => (r.model == 0) && decide (r.began ≤ lim)

set_option maxHeartbeats 1000000 in
theorem follows_walk (sb mW N : Nat) (D : DataW Value) (ini p : ByteArray) (d h m b : Int) (va : Option Addr) (vn vc : Nat) (w : World) (hp : p.size ≤ maxLen)
    (c4 : w.cell? ⟨sb, 4, none⟩ = some (.map (some mW))) (hsb : sb < w.heap.size) (d1 : w.ownsMap Try.prog 9 rawElem mW N D)
    (K1 : Hid (D.atKey (keyS p) (.held zw) = .held (.agg #[.int .i64 m, .slice va vn vc, .int .i64 b]))) :
    Calls Try.prog 56 #[.pointer (some ⟨sb, 0, none⟩), .agg #[.string ini, .int .i64 d], .string p, .int .i64 h] w fun e w' =>
      e = .returned (.bool (Maps.has D (keyS p) && ((m == 0) && decide (b ≤ limOf p ini d h)))) ∧ w.grownBy w' none := by
  have hg : w.grownBy ((w.alloc (.cells #[.string ini, .int .i64 d] 36)).alloc (.cells #[.int .i64 m, .slice va vn vc, .int .i64 b] 70)) none := grown_alloc (World.grownBy_alloc w _ none) _
  have HG : Hid _ := hg
  clear hg
  cases hok : Maps.has D (keyS p)
  · cases hpi : (p.toList == ini.toList)
    all_goals
      go_enter Try.func56, Try.ntmps56
      go_wp2_with (at_lookup; refine wpList_lookup_raw_ok _ rfl _ _ 62 rfl 9 70 law9 Try.underlying62 (zero70 _) mW N D rfl (d1.alloc _) _ _ rfl (keyOf9 hp) _ K1.out ?_)
      go_ret
      exact ⟨by simp, HG.out⟩
  · cases hm0 : (m == 0)
    · cases hpi : (p.toList == ini.toList)
      all_goals
        go_enter Try.func56, Try.ntmps56
        go_wp2_with (at_lookup; refine wpList_lookup_raw_ok _ rfl _ _ 62 rfl 9 70 law9 Try.underlying62 (zero70 _) mW N D rfl (d1.alloc _) _ _ rfl (keyOf9 hp) _ K1.out ?_)
        go_ret
        exact ⟨by simp, HG.out⟩
    · cases hpi : (p.toList == ini.toList)
      all_goals
        go_enter Try.func56, Try.ntmps56
        go_wp2_with (at_lookup; refine wpList_lookup_raw_ok _ rfl _ _ 62 rfl 9 70 law9 Try.underlying62 (zero70 _) mW N D rfl (d1.alloc _) _ _ rfl (keyOf9 hp) _ K1.out ?_)
        go_ret
        exact ⟨by simp [limOf, hpi], HG.out⟩

theorem field70 (x z : Value) (va : Option Addr) (vn vc : Nat) (w : World) : (Instr.field 70 (.agg #[x, .slice va vn vc, z]) 1).run Try.prog w = .ok (.slice va vn vc) w := by kernel_rfl

set_option maxHeartbeats 1000000 in
theorem followed_walk (sb mW N : Nat) (D : DataW Value) (ini p : ByteArray) (d h m b : Int) (va : Option Addr) (vn vc : Nat) (w : World) (hp : p.size ≤ maxLen)
    (c4 : w.cell? ⟨sb, 4, none⟩ = some (.map (some mW))) (hsb : sb < w.heap.size) (d1 : w.ownsMap Try.prog 9 rawElem mW N D)
    (K1 : Hid (D.atKey (keyS p) (.held zw) = .held (.agg #[.int .i64 m, .slice va vn vc, .int .i64 b]))) :
    Calls Try.prog 39 #[.pointer (some ⟨sb, 0, none⟩), .agg #[.string ini, .int .i64 d], .string p, .int .i64 h] w fun e w' =>
      e = .returned (if (Maps.has D (keyS p) && ((m == 0) && decide (b ≤ limOf p ini d h))) = true then .slice va vn vc else .slice none 0 0) ∧ w.grownBy w' none := by
  generalize hr : (Maps.has D (keyS p) && ((m == 0) && decide (b ≤ limOf p ini d h))) = r
  have HR : Hid (_ = r) := hr
  clear hr
  have hg1 : ∀ o, w.grownBy (w.alloc o) none := fun o => World.grownBy_alloc w o none
  have HG1 : Hid _ := hg1
  clear hg1
  go_enter Try.func39, Try.ntmps39
  go_wp2_with fail
  refine (follows_walk sb mW N D ini p d h m b va vn vc _ hp (by rw [World.cell?_alloc_lt _ _ _ hsb]; exact c4) (by simp; omega) (d1.alloc _) K1).mono ?_
  rintro e w1 ⟨rfl, hg⟩
  rw [HR.out]
  have c4' : w1.cell? ⟨sb, 4, none⟩ = some (.map (some mW)) := hg.cell (by rw [World.cell?_alloc_lt _ _ _ hsb]; exact c4) (by simp)
  have d1' : w1.ownsMap Try.prog 9 rawElem mW N D := (d1.alloc _).kept hg (by simp)
  have HG : Hid (w.grownBy w1 none) := grown_trans (HG1.out _) hg
  have hfd := field70
  clear hg c4 d1 HR
  cases r
  · go_wp2_with fail
    go_ret
    exact ⟨rfl, HG.out⟩
  · go_wp2_with (at_lookup; refine wpList_lookup_raw _ rfl _ _ 62 rfl 9 70 law9 Try.underlying62 (zero70 _) mW N D rfl d1' _ _ rfl (keyOf9 hp) _ K1.out ?_)
    go_ret
    exact ⟨by simp, HG.out⟩

set_option maxHeartbeats 1000000 in
theorem zzfollowed_walk (sb mW N : Nat) (D : DataW Value) (ini p : ByteArray) (d h m b : Int) (va : Option Addr) (vn vc : Nat) (w : World) (hp : p.size ≤ maxLen)
    (c4 : w.cell? ⟨sb, 4, none⟩ = some (.map (some mW))) (hsb : sb < w.heap.size) (d1 : w.ownsMap Try.prog 9 rawElem mW N D)
    (K1 : Hid (D.atKey (keyS p) (.held zw) = .held (.agg #[.int .i64 m, .slice va vn vc, .int .i64 b]))) :
    Calls Try.prog 19 #[.pointer (some ⟨sb, 0, none⟩), .agg #[.string ini, .int .i64 d], .string p, .int .i64 h] w fun e w' =>
      e = .returned (if (Maps.has D (keyS p) && ((m == 0) && decide (b ≤ limOf p ini d h))) = true then .slice va vn vc else .slice none 0 0) ∧ w.grownBy w' none := by
  generalize hr : (if (Maps.has D (keyS p) && ((m == 0) && decide (b ≤ limOf p ini d h))) = true then Value.slice va vn vc else .slice none 0 0) = r
  have HR : Hid (_ = r) := hr
  clear hr
  have hg1 : ∀ o, w.grownBy (w.alloc o) none := fun o => World.grownBy_alloc w o none
  have HG1 : Hid _ := hg1
  clear hg1
  go_enter Try.func19, Try.ntmps19
  go_wp2_with fail
  refine (followed_walk sb mW N D ini p d h m b va vn vc _ hp (by rw [World.cell?_alloc_lt _ _ _ hsb]; exact c4) (by simp; omega) (d1.alloc _) K1).mono ?_
  rintro e w1 ⟨rfl, hg⟩
  rw [HR.out]
  have HG : Hid (w.grownBy w1 none) := grown_trans (HG1.out _) hg
  clear hg c4 d1 HR
  go_wp2_with fail
  go_ret
  exact ⟨rfl, HG.out⟩

/-- What 'followed' gives: the list of the wait, or nil. -/
def FolIs (B : Nat) (w : World) (o : Option Rec) (lim : Int) (v : Value) : Prop :=
  (folB o lim = false ∧ v = .slice none 0 0) ∨
  ∃ r a c, o = some r ∧ folB o lim = true ∧ v = .slice (some a) r.on.length c ∧ w.ownsRow B 9 1 (.slice (some a) r.on.length c) r.on.length (r.on.map Value.string)

theorem zzfollowed_any {B : Nat} {L : Lay} {tick : Int} {ls : List ByteArray} {N : Nat} {f : ByteArray → Option Rec} {bg : List Int} {E : DataW Value} {fg : Int} (w : World)
    (hI : Inv B L tick ls N f bg E fg w) (ini p : ByteArray) (d h : Int) (hp : p.size ≤ maxLen) :
    Calls Try.prog 19 #[.pointer (some ⟨L.sb, 0, none⟩), .agg #[.string ini, .int .i64 d], .string p, .int .i64 h] w fun e w' =>
      ∃ v, e = .returned v ∧ FolIs B w' (f p) (limOf p ini d h) v ∧ w.grownBy w' none := by
  obtain ⟨bv, s1, _⟩ := hI.site
  obtain ⟨D, d1, d2⟩ := hI.waits
  obtain ⟨m, va, vn, vc, b, k1, k2, k3⟩ := d2.look p
  have c4 : w.cell? ⟨L.sb, 4, none⟩ = some (.map (some L.mW)) := cell_of_block s1 rfl
  refine (zzfollowed_walk L.sb L.mW N D ini p d h m b va vn vc w hp c4 (lt_of_block s1) d1 k1).mono ?_
  rintro e w1 ⟨rfl, hg⟩
  refine ⟨_, rfl, ?_, hg⟩
  rw [k2]
  cases hf : f p with
  | none => left; exact ⟨rfl, rfl⟩
  | some r =>
    obtain ⟨rfl, rfl, rfl, ha, ho⟩ := k3 r hf
    cases hb : folB (some r) (limOf p ini d h) with
    | false =>
      left
      refine ⟨hb, ?_⟩
      rw [if_neg]
      unfold folB at hb
      simp only [Option.isSome_some, Bool.true_and]
      simp only at hb
      rw [hb]
      simp
    | true =>
      right
      cases va with
      | none => simp at ha
      | some a =>
        refine ⟨r, a, vc, rfl, hb, ?_, owns_kept ho hg⟩
        rw [if_pos]
        unfold folB at hb
        simp only [Option.isSome_some, Bool.true_and]
        exact hb

theorem nil_followed {B : Nat} {w : World} {lim : Int} {v : Value} (h : FolIs B w none lim v) : v = .slice none 0 0 := by
  rcases h with ⟨_, e⟩ | ⟨r, a, c, e, _⟩
  · exact e
  · cases e

set_option maxHeartbeats 400000 in
theorem shared_any {B : Nat} {L : Lay} {tick : Int} {ls : List ByteArray} {N : Nat} {f : ByteArray → Option Rec} {bg : List Int} {E : DataW Value} {fg : Int} (w : World)
    (hI : Inv B L tick ls N f bg E fg w) (p : ByteArray) :
    Calls Try.prog 20 #[.pointer (some ⟨L.sb, 0, none⟩), .string p] w fun e w' => e = .returned (.bool false) ∧ w' = w := by
  obtain ⟨bv, s1, _⟩ := hI.site
  have c2 : w.cell? ⟨L.sb, 2, none⟩ = some (.func (.func 54) #[] #[]) := cell_of_block s1 rfl
  clear s1 hI
  go_enter Try.func20, Try.ntmps20
  go_wp2
  go_ret
  exact ⟨rfl, rfl⟩

set_option maxHeartbeats 400000 in
theorem ahead_any {B : Nat} {L : Lay} {tick : Int} {ls : List ByteArray} {N : Nat} {f : ByteArray → Option Rec} {bg : List Int} {E : DataW Value} {fg : Int} (w : World)
    (hI : Inv B L tick ls N f bg E fg w) (p : ByteArray) :
    Calls Try.prog 21 #[.pointer (some ⟨L.sb, 0, none⟩), .string p] w fun e w' => e = .returned (.bool false) ∧ w' = w := by
  obtain ⟨bv, s1, _⟩ := hI.site
  have c2 : w.cell? ⟨L.sb, 3, none⟩ = some (.func (.func 54) #[] #[]) := cell_of_block s1 rfl
  clear s1 hI
  go_enter Try.func21, Try.ntmps21
  go_wp2
  go_ret
  exact ⟨rfl, rfl⟩

end Go.Proofs.Qxb6609132a
