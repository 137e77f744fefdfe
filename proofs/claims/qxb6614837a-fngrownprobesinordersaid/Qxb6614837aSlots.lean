import Derived.Test.Qxb6614837aCheck
namespace Go.Proofs.Qxb6614837a
open Go.RowKit

theorem and_mask {x b : Int} (h0 : 0 ≤ x) (h1 : x < 4294967296) : bits .and .u32 x (mask b) = ((x.toNat % 2 ^ sb b : Nat) : Int) := by
  have hsb : sb b ≤ 32 := by unfold sb; omega
  have hp : (2 : Nat) ^ sb b ≤ 2 ^ 32 := Nat.pow_le_pow_right (by omega) hsb
  have hp0 : 0 < (2 : Nat) ^ sb b := Nat.pow_pos (by omega)
  have e : mask b = ((2 ^ sb b - 1 : Nat) : Int) := by
    unfold mask
    have : ((2 : Int) ^ sb b) = ((2 ^ sb b : Nat) : Int) := by simp
    rw [this]
    generalize (2 : Nat) ^ sb b = p at hp hp0
    omega
  rw [e]
  generalize hP : (2 : Nat) ^ sb b = p at hp hp0
  rw [u32_and _ _ h0 h1 (by omega) (by omega)]
  simp only [Int.toNat_natCast]
  rw [← hP, Nat.and_two_pow_sub_one_eq_mod]

theorem wrap_inj {o x y : Int} (hx0 : 0 ≤ x) (hx : x < 4294967296) (hy0 : 0 ≤ y) (hy : y < 4294967296) (h : wrap32 (o + wrap32 x) = wrap32 (o + wrap32 y)) : x = y := by
  unfold wrap32 at h
  omega

theorem slot_eq {o b x y : Int} (hx0 : 0 ≤ x) (hx : x < 4294967296) (hy0 : 0 ≤ y) (hy : y < 4294967296) (h1 : x / 2 ^ min b.toNat 32 = y / 2 ^ min b.toNat 32) (h2 : keyP o b x = keyP o b y) : x = y := by
  unfold keyP at h2
  rw [and_mask hx0 hx, and_mask hy0 hy] at h2
  have hpos : 0 < (2 : Nat) ^ sb b := Nat.pow_pos (by omega)
  have lx : x.toNat % 2 ^ sb b ≤ x.toNat := Nat.mod_le _ _
  have ly : y.toNat % 2 ^ sb b ≤ y.toNat := Nat.mod_le _ _
  have h3 := wrap_inj (by omega) (by omega) (by omega) (by omega) h2
  have h3' : x.toNat % 2 ^ sb b = y.toNat % 2 ^ sb b := by omega
  obtain ⟨X, rfl⟩ := Int.eq_ofNat_of_zero_le hx0
  obtain ⟨Y, rfl⟩ := Int.eq_ofNat_of_zero_le hy0
  have h1' : X / 2 ^ sb b = Y / 2 ^ sb b := by
    have h1 : (X : Int) / 2 ^ sb b = (Y : Int) / 2 ^ sb b := h1
    have e : ((2 : Int) ^ sb b) = ((2 ^ sb b : Nat) : Int) := by simp
    rw [e, ← Int.natCast_ediv, ← Int.natCast_ediv] at h1
    exact Int.ofNat.inj h1
  simp only [Int.toNat_natCast] at h3'
  have ex := Nat.div_add_mod X (2 ^ sb b)
  have ey := Nat.div_add_mod Y (2 ^ sb b)
  rw [h1', h3'] at ex
  rw [← ex, ey]

/-- The key of a slot is found where the slot lies. -/
theorem found {o b m : Int} {zs g : List Int} {pos : Nat → Nat} (hR : Grown (homeOf o b m (2 * zs.length)) zs zs.length g pos) (hd : Distinct zs) (hw : ∀ i, i < zs.length → 0 ≤ zs.getD i 0 ∧ zs.getD i 0 < 4294967296)
    (hf : ∀ j, j < zs.length → zs.getD j 0 ≠ 0 → Fits o b m (zs.getD j 0)) {k : Nat} (hk : k < zs.length) (hz : zs.getD k 0 ≠ 0) :
    ∃ H : Nat, hashP (keyP o b (zs.getD k 0)) m = H ∧ H < 18446744073709551616 ∧ pos k < g.length ∧ g.getD (pos k) 0 = zs.getD k 0 ∧
      (g.getD (pos k) 0 ≠ 0 ∧ (g.getD (pos k) 0 / 2 ^ min b.toNat 32 == tagP H b) = true ∧ (keyP o b (g.getD (pos k) 0) == keyP o b (zs.getD k 0)) = true) ∧
      (∀ r, r < g.length → dist g.length (H * g.length / 18446744073709551616) r < dist g.length (H * g.length / 18446744073709551616) (pos k) →
        (g.getD r 0 ≠ 0 ∧ ((g.getD r 0 / 2 ^ min b.toNat 32 == tagP H b) = true → (keyP o b (g.getD r 0) == keyP o b (zs.getD k 0)) = false))) := by
  obtain ⟨H, e, hH⟩ := hash_nat (keyP o b (zs.getD k 0)) m
  obtain ⟨h1, h2⟩ := hR.put k hk hz
  have hfk := hf k hk hz
  unfold Fits at hfk
  rw [e] at hfk
  refine ⟨H, e, hH, h1, h2, ⟨by rw [h2]; exact hz, by rw [h2]; exact hfk, by rw [h2]; simp⟩, fun r hr hdist => ?_⟩
  have e2 : homeOf o b m (2 * zs.length) (zs.getD k 0) = H * g.length / 18446744073709551616 := by
    unfold homeOf homeP
    rw [e, hR.len]
    simp
  obtain ⟨i, hi, hiz, hir⟩ := hR.path k hk hz r hr (by rw [e2]; exact hdist)
  have h3 := (hR.put i (by omega) hiz).2
  rw [hir] at h3
  rw [h3]
  refine ⟨hiz, fun htag => ?_⟩
  rw [beq_eq_false_iff_ne]
  intro hkey
  have hi' : i < zs.length := by omega
  have := slot_eq (hw i hi').1 (hw i hi').2 (hw k hk).1 (hw k hk).2 ((beq_iff_eq.1 htag).trans (beq_iff_eq.1 hfk).symm) hkey
  have := hd.inj hi' hk hiz this
  omega

/-- 'copy' into a row that is known whole: the row behind it, and that nothing else has turned. -/
theorem run_copy_here {P : Program} (w : World) (dT sT ty elem : TypeId) (g o dLen dCap : Nat) (a : Addr) (sLen sCap : Nat) (cur : List Value) (t : TypeId) (cs : List Value)
    (hu : P.underlying dT = some (.slice elem)) (hs : (P.info? elem).map (·.size) = some 1)
    (hg : w.heap[g]? = some (.cells cur.toArray t (0, 0))) (hn : cs.length = Nat.min sLen dLen)
    (hsrc : ∀ j v, cs[j]? = some v → w.cell? (a.add j) = some v) (hfit : o + cs.length ≤ cur.length) (h1 : ∀ v ∈ cs, v.oneCell' = true) :
    ∃ w', (Builtin.copy_ #[dT, sT] ty #[.slice (some ⟨g, o, none⟩) dLen dCap, .slice (some a) sLen sCap]).run P w = .ok (goInt cs.length) w' ∧
      w'.heap[g]? = some (.cells (cur.take o ++ cs ++ cur.drop (o + cs.length)).toArray t (0, 0)) ∧ w.grownBy w' (some g) := by
  have h := run_copy_row (P := P) w dT sT ty elem g o dLen dCap a sLen sCap cur.toArray t cs hu hs hg hn hsrc (by simpa using hfit) h1
  refine ⟨_, h, ?_, ⟨rfl, rfl, rfl, by simp [World.setRow], fun k _ hk => setRow_other w g k _ (fun e => hk (by rw [e]))⟩⟩
  rw [setRow_heap w g _ _ t _ hg]

theorem size28 : (Try.prog.info? 28).map (·.size) = some 1 := by kernel_rfl

/-- The law's own copy of its table. -/
theorem copy_run {w : World} {B n tb : Nat} {x : Addr} {cap : Nat} {zs : List Int} (hn : zs.length = n) (h : Owns w B 28 .u32 tb (List.replicate n 0)) (hc : ∀ i, i < zs.length → w.cell? (x.add i) = some (.int .u32 (zs.getD i 0))) :
    ∃ w', (Builtin.copy_ #[22, 22] 3 #[.slice (some ⟨tb, 0, none⟩) n n, .slice (some x) n cap]).run Try.prog w = .ok (goInt n) w' ∧ Owns w' B 28 .u32 tb zs ∧ w.grownBy w' (some tb) := by
  subst hn
  rcases h.2 with ⟨h', _⟩ | ⟨g', cp, cur, h', hB, hh, h1, h2, h3, h4⟩
  · cases h'
  · simp only [Value.slice.injEq, Option.some.injEq, Addr.mk.injEq, and_true, true_and, List.length_replicate] at h'
    obtain ⟨rfl, rfl⟩ := h'
    have hl : cur.toList.length = zs.length := by simpa using h3
    have hrun := run_copy_here (P := Try.prog) w 22 22 3 28 tb 0 zs.length zs.length x zs.length cap cur.toList 28 (zs.map (Value.int .u32)) Try.underlying22 size28 (by simpa using hh) (by simp) (fun j v hj => by
      rw [List.getElem?_map] at hj
      obtain ⟨y, hy, rfl⟩ := Option.map_eq_some_iff.1 hj
      obtain ⟨hj', rfl⟩ := List.getElem?_eq_some_iff.1 hy
      rw [hc j hj']
      simp [List.getD, hj']) (by simp [hl]) (fun v hv => by obtain ⟨y, _, rfl⟩ := List.mem_map.1 hv; rfl)
    obtain ⟨w', r1, r2, r3⟩ := hrun
    refine ⟨w', by simpa using r1, ⟨by simp, .inr ⟨tb, zs.length, _, rfl, hB, r2, Nat.le_refl _, by simpa using h2, by simp [h3], ?_⟩⟩, r3⟩
    simp

end Go.Proofs.Qxb6614837a
