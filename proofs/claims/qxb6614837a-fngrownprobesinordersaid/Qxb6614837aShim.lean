import Derived.Test.Qxb6614837aGrown
namespace Go.Proofs.Qxb6614837a
open Go.RowKit

/-- The table zs as the law hands it on: nil, or it lies in a block. -/
def Tab (w : World) (a : Option Addr) (cap : Nat) (zs : List Int) : Prop := (a = none ∧ cap = 0 ∧ zs = []) ∨ ∃ tb, a = some ⟨tb, 0, none⟩ ∧ Lies w tb zs

theorem Tab.kept {w w' : World} {a : Option Addr} {cap : Nat} {zs : List Int} (h : Tab w a cap zs) (hg : w.grownBy w' none) : Tab w' a cap zs := by
  rcases h with h | ⟨tb, h1, h2⟩
  · exact .inl h
  · exact .inr ⟨tb, h1, h2.grown hg⟩

theorem toTable_any (a : Option Addr) (cap : Nat) (zs : List Int) (w : World) (hm : zs.length ≤ 4096) (hs : Tab w a cap zs) :
    Calls Try.prog 16 #[.slice a zs.length cap] w fun e w' => ∃ a' c', e = .returned (.slice a' zs.length c') ∧ (zs = [] ∨ ∃ tb, a' = some ⟨tb, 0, none⟩ ∧ Lies w' tb zs) ∧ w.grownBy w' none := by
  rcases hs with ⟨rfl, rfl, rfl⟩ | ⟨tb, rfl, h⟩
  · refine (toTable_nil w).mono ?_
    rintro e w' ⟨rfl, rfl⟩
    exact ⟨none, 0, rfl, .inl rfl, World.grownBy.refl _ _⟩
  · refine (toTable_some tb cap zs w (by omega) h).mono ?_
    rintro e w' ⟨rfl, h1, h2⟩
    exact ⟨_, _, rfl, .inr ⟨_, rfl, h1.lies⟩, h2⟩

set_option maxRecDepth 20000 in
set_option maxHeartbeats 4000000 in
theorem zzgrown_walk (a : Option Addr) (cap : Nat) (zs : List Int) (o b m : Int) (w : World) (hb : 0 ≤ b) (hm : zs.length ≤ 4096) (hs : Tab w a cap zs) :
    Calls Try.prog 7 #[.slice a zs.length cap, .int .i32 o, .int .i64 b, .int .u64 m] w fun e w' =>
      ∃ tb' g pos, e = .returned (.slice (some ⟨tb', 0, none⟩) g.length g.length) ∧ Owns w' w.heap.size 28 .u32 tb' g ∧ Grown (homeOf o b m (2 * zs.length)) zs zs.length g pos ∧ w.grownBy w' none := by
  have HS := hidden hs
  clear hs
  go_enter Try.func7, Try.ntmps7
  go_wp2_with fail
  have c0 : ((w.alloc (Obj.cells #[Value.int IntKind.u64 m] 23)).alloc (Obj.cells #[Value.int IntKind.i32 o, Value.int IntKind.i64 b] 35)).cell? ⟨w.heap.size + 1, 0, none⟩ = some (.int .i32 o) := by go_keep
  have c1 : ((w.alloc (Obj.cells #[Value.int IntKind.u64 m] 23)).alloc (Obj.cells #[Value.int IntKind.i32 o, Value.int IntKind.i64 b] 35)).cell? ⟨w.heap.size + 1, 1, none⟩ = some (.int .i64 b) := by go_keep
  have cm : ((w.alloc (Obj.cells #[Value.int IntKind.u64 m] 23)).alloc (Obj.cells #[Value.int IntKind.i32 o, Value.int IntKind.i64 b] 35)).cell? ⟨w.heap.size, 0, none⟩ = some (.int .u64 m) := by go_keep
  have HG := hidden (grown_trans (World.grownBy_alloc w (Obj.cells #[Value.int IntKind.u64 m] 23) none) (World.grownBy_alloc _ (Obj.cells #[Value.int IntKind.i32 o, Value.int IntKind.i64 b] 35) none))
  have HS2 := hidden (HS.out.kept HG.out)
  generalize (w.alloc (Obj.cells #[Value.int IntKind.u64 m] 23)).alloc (Obj.cells #[Value.int IntKind.i32 o, Value.int IntKind.i64 b] 35) = w2 at c0 c1 cm HG HS2 ⊢
  go_region_held3 (fun w' => w'.cell? ⟨w.heap.size + 1, 0, none⟩ = some (.int .i32 o) ∧ w'.cell? ⟨w.heap.size + 1, 1, none⟩ = some (.int .i64 b) ∧ w'.cell? ⟨w.heap.size, 0, none⟩ = some (.int .u64 m)) (go_keep)
    ((first
      | (go_at_call 16; refine (toTable_any a cap zs _ hm (HS2.out.kept (grown_drew w2))).mono ?_; rintro e w3 ⟨a3, k3, rfl, ht, hg3⟩; have HT := hidden ht; clear ht; have f0 := hg3.cell c0 (by simp); have f1 := hg3.cell c1 (by simp); have fm := hg3.cell cm (by simp))
      | (go_at_call 17; refine (grown_walk _ _ zs o b m w.heap.size _ hb hm HT.out fm).mono ?_; rintro e w4 ⟨t4, g, pos, rfl, ho4, hR4, hg4⟩; have HO4 := hidden ho4; have HR4 := hidden hR4; clear ho4 hR4; have h0 := hg4.cell f0 (by simp); have h1 := hg4.cell f1 (by simp); have h2 := hg4.cell fm (by simp))
      | (go_at_call 15; refine (fromTable_some t4 g.length g _ (by have := HR4.out.len; omega) HO4.out.lies).mono ?_; rintro e w5 ⟨rfl, ho5, hg5⟩; have HO5 := hidden ho5; clear ho5; have i0 := hg5.cell h0 (by simp); have i1 := hg5.cell h1 (by simp); have i2 := hg5.cell h2 (by simp))))
  all_goals
    go_wp2_with fail
    go_ret
    refine ⟨_, g, pos, rfl, ⟨HO5.out.1, ?_⟩, HR4.out, grown_trans (grown_trans (grown_trans (grown_trans HG.out (grown_drew w2)) hg3) hg4) hg5⟩
    rcases HO5.out.2 with ⟨h, _⟩ | ⟨g', cp, cur, h, hB, hr⟩
    · cases h
    · exact .inr ⟨g', cp, cur, h, Nat.le_trans (Nat.le_trans HG.out.size hg3.size) (Nat.le_trans hg4.size hB), hr⟩

set_option maxRecDepth 20000 in
set_option maxHeartbeats 4000000 in
theorem zzfind_walk (tb cap : Nat) (g : List Int) (o b wt : Int) (H q : Nat) (w : World) (hb : 0 ≤ b) (hH : H < 18446744073709551616) (hn : g.length ≤ 1048576) (hq : q < g.length) (hl : Lies w tb g)
    (h0 : g.getD q 0 ≠ 0 ∧ (g.getD q 0 / 2 ^ min b.toNat 32 == tagP H b) = true ∧ (keyP o b (g.getD q 0) == wt) = true)
    (hp : ∀ r, r < g.length → dist g.length (H * g.length / 18446744073709551616) r < dist g.length (H * g.length / 18446744073709551616) q → (g.getD r 0 ≠ 0 ∧ ((g.getD r 0 / 2 ^ min b.toNat 32 == tagP H b) = true → (keyP o b (g.getD r 0) == wt) = false))) :
    Calls Try.prog 13 #[.slice (some ⟨tb, 0, none⟩) g.length cap, .int .i32 o, .int .i64 b, .int .u64 H, .int .i32 wt] w fun e w' => e = .returned (.int .i64 q) ∧ w.grownBy w' none := by
  have HS := hidden hl
  have HF : Hid (∀ (t5 c5 ib : Nat) (w' : World), w'.cell? ⟨ib, 0, none⟩ = some (.int .i32 wt) → Lies w' t5 g → Calls Try.prog 23 #[.slice (some ⟨t5, 0, none⟩) g.length c5, .agg #[.int .i32 o, .int .i64 b], .int .u64 H, .func (.func 24) #[] #[.pointer (some ⟨ib, 0, none⟩)]] w' fun e w'' => e = .returned (.int .i64 q) ∧ w'.grownBy w'' none) :=
    fun t5 c5 ib w' h1 h2 => find_is t5 c5 g o b H q ib wt w' hb hH hn hq h2 h1 h0 hp
  clear hl h0 hp
  go_enter Try.func13, Try.ntmps13
  go_wp2_with fail
  have c0 : ((w.alloc (Obj.cells #[Value.int IntKind.i32 wt] 21)).alloc (Obj.cells #[Value.int IntKind.i32 o, Value.int IntKind.i64 b] 35)).cell? ⟨w.heap.size + 1, 0, none⟩ = some (.int .i32 o) := by go_keep
  have c1 : ((w.alloc (Obj.cells #[Value.int IntKind.i32 wt] 21)).alloc (Obj.cells #[Value.int IntKind.i32 o, Value.int IntKind.i64 b] 35)).cell? ⟨w.heap.size + 1, 1, none⟩ = some (.int .i64 b) := by go_keep
  have cm : ((w.alloc (Obj.cells #[Value.int IntKind.i32 wt] 21)).alloc (Obj.cells #[Value.int IntKind.i32 o, Value.int IntKind.i64 b] 35)).cell? ⟨w.heap.size, 0, none⟩ = some (.int .i32 wt) := by go_keep
  have HG := hidden (grown_trans (World.grownBy_alloc w (Obj.cells #[Value.int IntKind.i32 wt] 21) none) (World.grownBy_alloc _ (Obj.cells #[Value.int IntKind.i32 o, Value.int IntKind.i64 b] 35) none))
  have HS2 := hidden (HS.out.grown HG.out)
  generalize (w.alloc (Obj.cells #[Value.int IntKind.i32 wt] 21)).alloc (Obj.cells #[Value.int IntKind.i32 o, Value.int IntKind.i64 b] 35) = w2 at c0 c1 cm HG HS2 ⊢
  go_region_held3 (fun w' => w'.cell? ⟨w.heap.size + 1, 0, none⟩ = some (.int .i32 o) ∧ w'.cell? ⟨w.heap.size + 1, 1, none⟩ = some (.int .i64 b) ∧ w'.cell? ⟨w.heap.size, 0, none⟩ = some (.int .i32 wt)) (go_keep)
    ((first
      | (go_at_call 16; refine (toTable_some tb cap g _ hn (HS2.out.grown (grown_drew w2))).mono ?_; rintro e w3 ⟨rfl, ho3, hg3⟩; have HO3 := hidden ho3; clear ho3; have f0 := hg3.cell c0 (by simp); have f1 := hg3.cell c1 (by simp); have fm := hg3.cell cm (by simp))
      | (go_at_call 23; refine (HF.out _ _ w.heap.size _ fm HO3.out.lies).mono ?_; rintro e w4 ⟨rfl, hg4⟩; have h0 := hg4.cell f0 (by simp); have h1 := hg4.cell f1 (by simp); have h2 := hg4.cell fm (by simp))))
  all_goals
    go_wp2_with fail
    go_ret
    exact ⟨rfl, grown_trans (grown_trans (grown_trans HG.out (grown_drew w2)) hg3) hg4⟩

end Go.Proofs.Qxb6614837a
