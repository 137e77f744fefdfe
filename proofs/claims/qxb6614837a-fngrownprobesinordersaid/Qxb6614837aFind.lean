import Derived.Test.Qxb6614837aPlain
namespace Go.Proofs.Qxb6614837a
open Go.RowKit

/-- The table g lies in the block tb. -/
def Lies (w : World) (tb : Nat) (g : List Int) : Prop := ∀ i, i < g.length → w.cell? ⟨tb, i, none⟩ = some (.int .u32 (g.getD i 0))

theorem Lies.grown {w w' : World} {tb : Nat} {g : List Int} (h : Lies w tb g) (hg : w.grownBy w' none) : Lies w' tb g := fun i hi => hg.cell (h i hi) (by simp)

set_option maxRecDepth 20000 in
set_option maxHeartbeats 4000000 in
theorem find_none (tb cap : Nat) (g : List Int) (o b : Int) (H q : Nat) (w : World) (hb : 0 ≤ b) (hH : H < 18446744073709551616) (hn : g.length ≤ 1048576) (hq : q < g.length) (hl : Lies w tb g)
    (h0 : g.getD q 0 = 0) (hp : ∀ r, r < g.length → dist g.length (H * g.length / 18446744073709551616) r < dist g.length (H * g.length / 18446744073709551616) q → ¬ g.getD r 0 = 0) :
    Calls Try.prog 23 #[.slice (some ⟨tb, 0, none⟩) g.length cap, .agg #[.int .i32 o, .int .i64 b], .int .u64 H, .func (.func 25) #[] #[]] w fun e w' => e = .returned (.int .i64 q) ∧ w.grownBy w' none := by
  have hi0 := home_lt (n := g.length) hH (by omega)
  have HP := hidden hp
  have H0 := hidden h0
  have HG0 := hidden (World.grownBy_alloc w (Obj.cells #[Value.int IntKind.i32 o, Value.int IntKind.i64 b] 35) none)
  clear hp h0
  go_enter Try.func23, Try.ntmps23
  go_wp2_with fail
  have c0 : (w.alloc (Obj.cells #[Value.int IntKind.i32 o, Value.int IntKind.i64 b] 35)).cell? ⟨w.heap.size, 0, none⟩ = some (.int .i32 o) := by go_keep
  have c1 : (w.alloc (Obj.cells #[Value.int IntKind.i32 o, Value.int IntKind.i64 b] 35)).cell? ⟨w.heap.size, 1, none⟩ = some (.int .i64 b) := by go_keep
  have hl1 := hl.grown HG0.out
  clear hl
  generalize w.alloc (Obj.cells #[Value.int IntKind.i32 o, Value.int IntKind.i64 b] 35) = w1 at c0 c1 HG0 hl1 ⊢
  refine (mul64_any H g.length hH (by omega) _).mono ?_
  rintro e w' ⟨rfl, rfl⟩
  generalize hz : H * g.length % 18446744073709551616 = lo
  clear hz
  generalize H * g.length / 18446744073709551616 = i0 at hi0 HP ⊢
  go_wp2_with fail
  refine (tag_any o b H hb _).mono ?_
  rintro e w2 ⟨rfl, hg2⟩
  have d0 := hg2.cell c0 (by simp)
  have d1 := hg2.cell c1 (by simp)
  have hl2 := hl1.grown hg2
  have HG2 := hidden (grown_trans HG0.out hg2)
  clear c0 c1 hl1 HG0 hg2
  generalize tagP (↑H) b = tg
  have hc := hl2 i0 hi0
  have HL := hidden hl2
  clear hl2
  generalize hs0 : g.getD i0 0 = s0 at hc
  have HS0 := hidden hs0
  clear hs0
  go_wp2_with fail
  go_loopw [9, 12] (fun i s wr => ∃ (k : Nat), k < g.length ∧ i = .int .u64 k ∧ s = .int .u32 (g.getD k 0) ∧ Hid (∀ r, r < g.length → dist g.length k r < dist g.length k q → ¬ g.getD r 0 = 0) ∧ w.grownBy wr none ∧ wr.cell? ⟨w.heap.size, 0, none⟩ = some (.int .i32 o) ∧ wr.cell? ⟨w.heap.size, 1, none⟩ = some (.int .i64 b) ∧ Hid (Lies wr tb g)) (fun i _ _ => dist g.length (intOf i).toNat q)
  case atStart => exact ⟨i0, hi0, rfl, by rw [HS0.out], HP, HG2.out, d0, d1, HL⟩
  case round =>
    clear hc HL HG2 d0 d1 HP HS0
    obtain ⟨k, hk, rfl, rfl, HP, hg, d0, d1, HL⟩ := hrel
    by_cases hkq : k = q
    · subst hkq
      rw [H0.out]
      go_wp2_with fail
      go_ret
      exact ⟨rfl, hg⟩
    · have hz := HP.out k hk (by rw [dist_self]; exact dist_pos hk hkq)
      have HN : Hid (∀ r, r < g.length → dist g.length (nxt g.length k) r < dist g.length (nxt g.length k) q → ¬ g.getD r 0 = 0) := fun r hr hd => HP.out r hr (dist_nxt_lt hk hq hr hkq hd)
      have HM := hidden (dist_nxt hk hq hkq)
      have hnx := nxt_lt hk
      have hc0 := HL.out (nxt g.length k) hnx
      clear HP
      generalize hs : g.getD k 0 = s at hz ⊢
      clear hs
      generalize hs0 : g.getD (nxt g.length k) 0 = s0 at hc0
      have HS0 := hidden hs0
      clear hs0
      have hnz : (s != 0) = true := by rw [bne_iff_ne]; exact hz
      clear hz
      by_cases hke : k + 1 = g.length
      · have hkb : (((k : Int) + 1) == (g.length : Int)) = true := by rw [beq_iff_eq]; omega
        have hx : nxt g.length k = 0 := by unfold nxt; rw [if_pos hke]
        rw [hx] at HN HM hnx hc0 HS0
        cases hst : (s / 2 ^ min b.toNat 32 == tg)
        · go_wp2_with fail
          go_roundw
          case rel => exact ⟨0, hnx, by rfl, by rw [HS0.out], HN, hg, d0, d1, HL⟩
          case measure => simp [intOf]; have := HM.out; omega
        · skip
          go_wp2_with (first | (go_at_call 26; refine (key_any o b s hb _).mono ?_; rintro e w3 ⟨rfl, hg3⟩; have e0 := hg3.cell d0 (by simp); have e1 := hg3.cell d1 (by simp); have hc := hg3.cell hc0 (by simp); have HL3 := hidden (HL.out.grown hg3)) | (go_at_call 25; refine (none_fn _ _).mono ?_; rintro e w4 ⟨rfl, rfl⟩))
          go_roundw
          case rel => exact ⟨0, hnx, by rfl, by rw [HS0.out], HN, grown_trans hg hg3, e0, e1, HL3⟩
          case measure => simp [intOf]; have := HM.out; omega
      · have hkb : (((k : Int) + 1) == (g.length : Int)) = false := by rw [beq_eq_false_iff_ne]; omega
        have hx : nxt g.length k = (k + 1) := by unfold nxt; rw [if_neg hke]
        rw [hx] at HN HM hnx hc0 HS0
        cases hst : (s / 2 ^ min b.toNat 32 == tg)
        · go_wp2_with fail
          go_roundw
          case rel => exact ⟨(k + 1), hnx, by go_num, by rw [HS0.out], HN, hg, d0, d1, HL⟩
          case measure => simp [intOf]; have := HM.out; exact (by omega)
        · skip
          go_wp2_with (first | (go_at_call 26; refine (key_any o b s hb _).mono ?_; rintro e w3 ⟨rfl, hg3⟩; have e0 := hg3.cell d0 (by simp); have e1 := hg3.cell d1 (by simp); have hc := hg3.cell hc0 (by simp); have HL3 := hidden (HL.out.grown hg3)) | (go_at_call 25; refine (none_fn _ _).mono ?_; rintro e w4 ⟨rfl, rfl⟩))
          go_roundw
          case rel => exact ⟨(k + 1), hnx, by go_num, by rw [HS0.out], HN, grown_trans hg hg3, e0, e1, HL3⟩
          case measure => simp [intOf]; have := HM.out; exact (by omega)

set_option maxRecDepth 20000 in
set_option maxHeartbeats 4000000 in
theorem find_is (tb cap : Nat) (g : List Int) (o b : Int) (H q : Nat) (ib : Nat) (wt : Int) (w : World) (hb : 0 ≤ b) (hH : H < 18446744073709551616) (hn : g.length ≤ 1048576) (hq : q < g.length) (hl : Lies w tb g) (hib : w.cell? ⟨ib, 0, none⟩ = some (.int .i32 wt))
    (h0 : g.getD q 0 ≠ 0 ∧ (g.getD q 0 / 2 ^ min b.toNat 32 == tagP H b) = true ∧ (keyP o b (g.getD q 0) == wt) = true) (hp : ∀ r, r < g.length → dist g.length (H * g.length / 18446744073709551616) r < dist g.length (H * g.length / 18446744073709551616) q → (g.getD r 0 ≠ 0 ∧ ((g.getD r 0 / 2 ^ min b.toNat 32 == tagP H b) = true → (keyP o b (g.getD r 0) == wt) = false))) :
    Calls Try.prog 23 #[.slice (some ⟨tb, 0, none⟩) g.length cap, .agg #[.int .i32 o, .int .i64 b], .int .u64 H, .func (.func 24) #[] #[.pointer (some ⟨ib, 0, none⟩)]] w fun e w' => e = .returned (.int .i64 q) ∧ w.grownBy w' none := by
  have hi0 := home_lt (n := g.length) hH (by omega)
  have HP := hidden hp
  have H0 := hidden h0
  have HG0 := hidden (World.grownBy_alloc w (Obj.cells #[Value.int IntKind.i32 o, Value.int IntKind.i64 b] 35) none)
  clear hp h0
  go_enter Try.func23, Try.ntmps23
  go_wp2_with fail
  have c0 : (w.alloc (Obj.cells #[Value.int IntKind.i32 o, Value.int IntKind.i64 b] 35)).cell? ⟨w.heap.size, 0, none⟩ = some (.int .i32 o) := by go_keep
  have c1 : (w.alloc (Obj.cells #[Value.int IntKind.i32 o, Value.int IntKind.i64 b] 35)).cell? ⟨w.heap.size, 1, none⟩ = some (.int .i64 b) := by go_keep
  have hl1 := hl.grown HG0.out
  have cib := HG0.out.cell hib (by simp)
  clear hib
  clear hl
  generalize w.alloc (Obj.cells #[Value.int IntKind.i32 o, Value.int IntKind.i64 b] 35) = w1 at c0 c1 HG0 hl1 cib ⊢
  refine (mul64_any H g.length hH (by omega) _).mono ?_
  rintro e w' ⟨rfl, rfl⟩
  generalize hz : H * g.length % 18446744073709551616 = lo
  clear hz
  generalize H * g.length / 18446744073709551616 = i0 at hi0 HP ⊢
  go_wp2_with fail
  refine (tag_any o b H hb _).mono ?_
  rintro e w2 ⟨rfl, hg2⟩
  have d0 := hg2.cell c0 (by simp)
  have d1 := hg2.cell c1 (by simp)
  have dib := hg2.cell cib (by simp)
  clear cib
  have hl2 := hl1.grown hg2
  have HG2 := hidden (grown_trans HG0.out hg2)
  clear c0 c1 hl1 HG0 hg2
  generalize tagP (↑H) b = tg at H0 HP ⊢
  have hc := hl2 i0 hi0
  have HL := hidden hl2
  clear hl2
  generalize hs0 : g.getD i0 0 = s0 at hc
  have HS0 := hidden hs0
  clear hs0
  go_wp2_with fail
  go_loopw [9, 12] (fun i s wr => ∃ (k : Nat), k < g.length ∧ i = .int .u64 k ∧ s = .int .u32 (g.getD k 0) ∧ Hid (∀ r, r < g.length → dist g.length k r < dist g.length k q → (g.getD r 0 ≠ 0 ∧ ((g.getD r 0 / 2 ^ min b.toNat 32 == tg) = true → (keyP o b (g.getD r 0) == wt) = false))) ∧ w.grownBy wr none ∧ wr.cell? ⟨w.heap.size, 0, none⟩ = some (.int .i32 o) ∧ wr.cell? ⟨w.heap.size, 1, none⟩ = some (.int .i64 b) ∧ Hid (Lies wr tb g) ∧ wr.cell? ⟨ib, 0, none⟩ = some (.int .i32 wt)) (fun i _ _ => dist g.length (intOf i).toNat q)
  case atStart => exact ⟨i0, hi0, rfl, by rw [HS0.out], HP, HG2.out, d0, d1, HL, dib⟩
  case round =>
    clear hc HL HG2 d0 d1 HP HS0 dib
    obtain ⟨k, hk, rfl, rfl, HP, hg, d0, d1, HL, dib⟩ := hrel
    by_cases hkq : k = q
    · subst hkq
      obtain ⟨h1, hst, hkey⟩ := H0.out
      have hnz : (g.getD k 0 != 0) = true := by rw [bne_iff_ne]; exact h1
      clear h1 H0 HP
      generalize hs : g.getD k 0 = s at hnz hst hkey ⊢
      clear hs
      go_wp2_with (first | (go_at_call 26; refine (key_any o b s hb _).mono ?_; rintro e w3 ⟨rfl, hg3⟩; have e0 := hg3.cell d0 (by simp); have e1 := hg3.cell d1 (by simp); have eib := hg3.cell dib (by simp)) | (go_at_call 24; refine (is_fn _ wt ib _ (by assumption)).mono ?_; rintro e w4 ⟨rfl, rfl⟩; rw [hkey]))
      go_ret
      exact ⟨rfl, grown_trans hg hg3⟩
    · have hz := HP.out k hk (by rw [dist_self]; exact dist_pos hk hkq)
      have HN : Hid (∀ r, r < g.length → dist g.length (nxt g.length k) r < dist g.length (nxt g.length k) q → (g.getD r 0 ≠ 0 ∧ ((g.getD r 0 / 2 ^ min b.toNat 32 == tg) = true → (keyP o b (g.getD r 0) == wt) = false))) := fun r hr hd => HP.out r hr (dist_nxt_lt hk hq hr hkq hd)
      have HM := hidden (dist_nxt hk hq hkq)
      have hnx := nxt_lt hk
      have hc0 := HL.out (nxt g.length k) hnx
      clear HP
      generalize hs : g.getD k 0 = s at hz ⊢
      clear hs
      generalize hs0 : g.getD (nxt g.length k) 0 = s0 at hc0
      have HS0 := hidden hs0
      clear hs0
      have hnz : (s != 0) = true := by rw [bne_iff_ne]; exact hz.1
      have hz2 := hz.2
      clear hz
      by_cases hke : k + 1 = g.length
      · have hkb : (((k : Int) + 1) == (g.length : Int)) = true := by rw [beq_iff_eq]; omega
        have hx : nxt g.length k = 0 := by unfold nxt; rw [if_pos hke]
        rw [hx] at HN HM hnx hc0 HS0
        cases hst : (s / 2 ^ min b.toNat 32 == tg)
        · go_wp2_with fail
          go_roundw
          case rel => exact ⟨0, hnx, by rfl, by rw [HS0.out], HN, hg, d0, d1, HL, dib⟩
          case measure => simp [intOf]; have := HM.out; omega
        · have hkey := hz2 hst
          go_wp2_with (first | (go_at_call 26; refine (key_any o b s hb _).mono ?_; rintro e w3 ⟨rfl, hg3⟩; have e0 := hg3.cell d0 (by simp); have e1 := hg3.cell d1 (by simp); have hc := hg3.cell hc0 (by simp); have HL3 := hidden (HL.out.grown hg3); have eib := hg3.cell dib (by simp)) | (go_at_call 24; refine (is_fn _ wt ib _ (by assumption)).mono ?_; rintro e w4 ⟨rfl, rfl⟩; rw [hkey]))
          go_roundw
          case rel => exact ⟨0, hnx, by rfl, by rw [HS0.out], HN, grown_trans hg hg3, e0, e1, HL3, eib⟩
          case measure => simp [intOf]; have := HM.out; omega
      · have hkb : (((k : Int) + 1) == (g.length : Int)) = false := by rw [beq_eq_false_iff_ne]; omega
        have hx : nxt g.length k = (k + 1) := by unfold nxt; rw [if_neg hke]
        rw [hx] at HN HM hnx hc0 HS0
        cases hst : (s / 2 ^ min b.toNat 32 == tg)
        · go_wp2_with fail
          go_roundw
          case rel => exact ⟨(k + 1), hnx, by go_num, by rw [HS0.out], HN, hg, d0, d1, HL, dib⟩
          case measure => simp [intOf]; have := HM.out; exact (by omega)
        · have hkey := hz2 hst
          go_wp2_with (first | (go_at_call 26; refine (key_any o b s hb _).mono ?_; rintro e w3 ⟨rfl, hg3⟩; have e0 := hg3.cell d0 (by simp); have e1 := hg3.cell d1 (by simp); have hc := hg3.cell hc0 (by simp); have HL3 := hidden (HL.out.grown hg3); have eib := hg3.cell dib (by simp)) | (go_at_call 24; refine (is_fn _ wt ib _ (by assumption)).mono ?_; rintro e w4 ⟨rfl, rfl⟩; rw [hkey]))
          go_roundw
          case rel => exact ⟨(k + 1), hnx, by go_num, by rw [HS0.out], HN, grown_trans hg hg3, e0, e1, HL3, eib⟩
          case measure => simp [intOf]; have := HM.out; exact (by omega)

end Go.Proofs.Qxb6614837a
