import Derived.Test.Qxb6614837aTable
namespace Go.Proofs.Qxb6614837a
open Go.RowKit

def homeOf (o b m : Int) (n : Nat) (s : Int) : Nat := homeP (hashP (keyP o b s) m) n

/-- Where the next slot goes. -/
theorem Grown.next {o b m : Int} {zs : List Int} {k : Nat} {g : List Int} {pos : Nat → Nat} (h : Grown (homeOf o b m (2 * zs.length)) zs k g pos) (hk : k < zs.length) (hz : zs.getD k 0 ≠ 0) :
    ∃ H q : Nat, hashP (keyP o b (zs.getD k 0)) m = H ∧ H < 18446744073709551616 ∧ q < g.length ∧ g.getD q 0 = 0 ∧
      (∀ r, r < g.length → dist g.length (H * g.length / 18446744073709551616) r < dist g.length (H * g.length / 18446744073709551616) q → ¬ g.getD r 0 = 0) ∧
      Grown (homeOf o b m (2 * zs.length)) zs (k + 1) (g.set q (zs.getD k 0)) (fun j => if j = k then q else pos j) := by
  obtain ⟨H, e, hH⟩ := hash_nat (keyP o b (zs.getD k 0)) m
  obtain ⟨r, hr, hr0⟩ := h.room hk
  obtain ⟨q, hq, h0, hp⟩ := first_of (i := H * g.length / 18446744073709551616) (fun r => g.getD r 0 = 0) _ r hr hr0 (Nat.le_refl _)
  refine ⟨H, q, e, hH, hq, h0, hp, h.add hk hz hq h0 ?_⟩
  have e2 : homeOf o b m (2 * zs.length) (zs.getD k 0) = H * g.length / 18446744073709551616 := by
    unfold homeOf homeP
    rw [e, h.len]
    simp
  rw [e2]
  exact hp

theorem grown_drew (w : World) : w.grownBy w.drew none := ⟨rfl, rfl, rfl, Nat.le_refl _, fun _ _ _ => rfl⟩
theorem size_alloc (w : World) (o : Obj) : (w.alloc o).heap.size = w.heap.size + 1 := by simp

set_option maxRecDepth 20000 in
set_option maxHeartbeats 4000000 in
theorem grown_walk (a : Option Addr) (cap : Nat) (zs : List Int) (o b m : Int) (mb : Nat) (w : World) (hb : 0 ≤ b) (hm : zs.length ≤ 4096) (hs : zs = [] ∨ ∃ tb, a = some ⟨tb, 0, none⟩ ∧ Lies w tb zs)
    (hmb : w.cell? ⟨mb, 0, none⟩ = some (.int .u64 m)) :
    Calls Try.prog 17 #[.slice a zs.length cap, .agg #[.int .i32 o, .int .i64 b], .func (.func 18) #[] #[.pointer (some ⟨mb, 0, none⟩)]] w fun e w' =>
      ∃ tb' g pos, e = .returned (.slice (some ⟨tb', 0, none⟩) g.length g.length) ∧ Owns w' w.heap.size 48 .u32 tb' g ∧ Grown (homeOf o b m (2 * zs.length)) zs zs.length g pos ∧ w.grownBy w' none := by
  obtain ⟨i0, hi, hz0, hz1, hz2⟩ := info_parts Try.info48
  have HG0 := hidden (World.grownBy_alloc w (Obj.cells #[Value.int IntKind.i32 o, Value.int IntKind.i64 b] 35) none)
  have hsz := size_alloc w (Obj.cells #[Value.int IntKind.i32 o, Value.int IntKind.i64 b] 35)
  have hmb1 := HG0.out.cell hmb (by simp)
  have hmlt := World.block_lt_of_cell? w _ hmb
  simp only at hmlt
  have c0 : (w.alloc (Obj.cells #[Value.int IntKind.i32 o, Value.int IntKind.i64 b] 35)).cell? ⟨w.heap.size, 0, none⟩ = some (.int .i32 o) := by go_keep
  have c1 : (w.alloc (Obj.cells #[Value.int IntKind.i32 o, Value.int IntKind.i64 b] 35)).cell? ⟨w.heap.size, 1, none⟩ = some (.int .i64 b) := by go_keep
  have hs1 : Hid (zs = [] ∨ ∃ tb, a = some ⟨tb, 0, none⟩ ∧ tb < w.heap.size ∧ Lies w tb zs) := by
    rcases hs with h | ⟨tb, h1, h2⟩
    · exact .inl h
    · rcases Nat.eq_zero_or_pos zs.length with h | h
      · exact .inl (List.length_eq_zero_iff.1 h)
      · exact .inr ⟨tb, h1, World.block_lt_of_cell? w _ (h2 0 h), h2⟩
  clear hs hmb
  go_enter Try.func17, Try.ntmps17
  go_wp2_with (at_make; refine wpList_make_full _ rfl _ _ 38 rfl w.heap.size 48 i0 (.int .u32 0) 1 Try.underlying38 hi hz0 hz1 .i64 .i64 _ _ (2 * zs.length) rfl rfl (by omega) (by omega) (by rw [hz2]; omega) (by unfold maxLen; omega) (by rw [hsz]; omega) ?_; intro w1 hown1 hgr1)
  rw [hsz] at hown1
  have d0 := hgr1.cell c0 (by simp)
  have d1 := hgr1.cell c1 (by simp)
  have dm := hgr1.cell hmb1 (by simp)
  have HB1 := hidden (grown_below (grown_trans HG0.out hgr1) (Nat.le_refl _))
  have HO1 := hidden (owns_made hown1)
  clear hown1 hgr1 c0 c1 hmb1 HG0 hsz hi hz0 hz1 hz2
  go_loopw [17] (fun i wr => ∃ (k : Nat) (g : List Int) (pos : Nat → Nat), k ≤ zs.length ∧ i = .int .i64 k ∧ Hid (Owns wr w.heap.size 48 .u32 (w.heap.size + 1) g) ∧ Hid (Grown (homeOf o b m (2 * zs.length)) zs k g pos) ∧ Hid (Below w.heap.size w wr) ∧
    wr.cell? ⟨w.heap.size, 0, none⟩ = some (.int .i32 o) ∧ wr.cell? ⟨w.heap.size, 1, none⟩ = some (.int .i64 b) ∧ wr.cell? ⟨mb, 0, none⟩ = some (.int .u64 m)) (fun i _ => zs.length - (intOf i).toNat)
  case atStart => exact ⟨0, _, _, Nat.zero_le _, rfl, HO1, grown_start _ _, HB1, d0, d1, dm⟩
  case round =>
    clear d0 d1 dm HB1 HO1
    obtain ⟨k, g, pos, hk, rfl, HO, HR, HB, d0, d1, dm⟩ := hrel
    by_cases hlt : k < zs.length
    · rcases hs1.out with h | ⟨tb, rfl, htb, hL⟩
      · rw [h] at hlt; simp at hlt
      have hcell : wr.cell? ⟨tb, k, none⟩ = some (.int .u32 (zs.getD k 0)) := (HB.out.cell (by exact htb)).trans (hL k hlt)
      clear hL hs1
      by_cases hz : zs.getD k 0 = 0
      · have HR2 := hidden (HR.out.skip hlt hz)
        rw [hz] at hcell
        clear hz HR
        go_wp2_with fail
        go_roundw
        case rel => exact ⟨k + 1, g, pos, by omega, by go_num, HO, HR2, HB, d0, d1, dm⟩
        case measure => simp [intOf]; omega
      · obtain ⟨H, q, e1, e2, e3, e4, e5, e6⟩ := HR.out.next hlt hz
        have hlen := HR.out.len
        have HF : Hid (∀ w' : World, Owns w' w.heap.size 48 .u32 (w.heap.size + 1) g → Calls Try.prog 23 #[.slice (some ⟨w.heap.size + 1, 0, none⟩) (2 * zs.length) (2 * zs.length), .agg #[.int .i32 o, .int .i64 b], .int .u64 H, .func (.func 25) #[] #[]] w' fun e w'' => e = .returned (.int .i64 q) ∧ w'.grownBy w'' none) := fun w' ho => by
          rw [← hlen]
          exact find_none (w.heap.size + 1) g.length g o b H q w' hb e2 (by omega) e3 ho.lies e4 e5
        have HE1 := hidden e1
        have HR2 := hidden e6
        have hnz : (zs.getD k 0 != 0) = true := by rw [bne_iff_ne]; exact hz
        have hq2 : q < 2 * zs.length := by omega
        have Hq := hidden e3
        have hne : w.heap.size + 1 ≠ mb := by omega
        have hqi : (q : Int) < 2 * (zs.length : Int) := by omega
        have hq0 : (0 : Int) ≤ (q : Int) := by omega
        clear e1 e2 e3 e4 e5 e6 hz HR hlen
        generalize zs.getD k 0 = s at hcell HE1 HR2 hnz
        go_wp2_with fail
        go_region_held3 (fun w' => w'.cell? ⟨w.heap.size, 0, none⟩ = some (.int .i32 o) ∧ w'.cell? ⟨w.heap.size, 1, none⟩ = some (.int .i64 b) ∧ w'.cell? ⟨mb, 0, none⟩ = some (.int .u64 m)) (go_keep)
          ((first
            | (go_at_call 26; refine (key_any o b s hb _).mono ?_; rintro e w3 ⟨rfl, hg3⟩; have f0 := hg3.cell d0 (by simp); have f1 := hg3.cell d1 (by simp); have fm := hg3.cell dm (by simp))
            | (go_at_call 18; refine (hash_fn _ m mb _ (by assumption)).mono ?_; rintro e w4 ⟨rfl, rfl⟩; rw [HE1.out])
            | (go_at_call 23; refine (HF.out _ (Owns.kept (w := wr.drew) HO.out hg3)).mono ?_; rintro e w5 ⟨rfl, hg5⟩; have h0 := hg5.cell f0 (by simp); have h1 := hg5.cell f1 (by simp); have h2 := hg5.cell fm (by simp); have HO5 := hidden ((Owns.kept (w := wr.drew) HO.out hg3).kept hg5); have hat := HO5.out.cell Hq.out; have hfz := HO5.out.frozen q)))
        have HO6 := hidden (HO5.out.put q s)
        have HB6 : Hid (Below w.heap.size w (w5.setCell ⟨w.heap.size + 1, q, none⟩ (.int .u32 s))) := ((((HB.out.trans (grown_below (b := wr.drew) (grown_drew wr) HB.out.size)).trans (grown_below hg3 HB.out.size)).trans (grown_below hg5 (Nat.le_trans HB.out.size hg3.size))).setCell (by simp) _)
        clear HO5 HB HO hat hfz
        go_wp2_with fail
        go_roundw
        case rel => exact ⟨k + 1, _, _, by omega, by go_num, HO6, HR2, HB6, by rw [World.cell?_setCell_far _ _ _ _ (by simp)]; exact h0, by rw [World.cell?_setCell_far _ _ _ _ (by simp)]; exact h1, by rw [World.cell?_setCell_far _ _ _ _ (by simpa using hne)]; exact h2⟩
        case measure => simp [intOf]; omega
    · have e : k = zs.length := by omega
      subst e
      go_wp2_with fail
      go_ret
      exact ⟨_, g, pos, by rw [HR.out.len]; rfl, HO.out, HR.out, below_grown HB.out⟩

end Go.Proofs.Qxb6614837a
