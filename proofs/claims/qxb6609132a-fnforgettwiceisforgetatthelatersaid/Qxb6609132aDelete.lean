import Derived.Test.Qxb6609132aInsert
import Derived.Lib.SliceRun
import Derived.Deep.RegionLaw
namespace Go.Proofs.Qxb6609132a
open Go.RowKit Go.Maps

theorem owns_setCells {B : Nat} {e : TypeId} {g n cap : Nat} : ∀ (vs : List Value) (o : Nat) (xs : List Value) (w : World), w.ownsRow B e 1 (.slice (some ⟨g, 0, none⟩) n cap) n xs → o + vs.length ≤ n →
    (w.setCells g o vs).ownsRow B e 1 (.slice (some ⟨g, 0, none⟩) n cap) n (xs.take o ++ vs ++ xs.drop (o + vs.length)) ∧ w.grownBy (w.setCells g o vs) (some g)
  | [], o, xs, w, h, _ => ⟨by rw [World.setCells]; simpa using h, World.grownBy.refl _ _⟩
  | v :: r, o, xs, w, h, hl => by
    have hx : xs.length = n := by simpa using h.1
    simp only [List.length_cons] at hl
    obtain ⟨h1, h2⟩ := h.stored o v
    obtain ⟨h3, h4⟩ := owns_setCells r (o + 1) (xs.set o v) _ h1 (by omega)
    refine ⟨?_, h2.andThen h4 (fun j hj => .inr hj)⟩
    have e1 : (xs.set o v).take (o + 1) = xs.take o ++ [v] := by
      rw [List.take_add_one, List.take_set_of_le (by omega)]
      simp [show o < xs.length by omega]
    have e2 : (xs.set o v).drop (o + 1 + r.length) = xs.drop (o + (v :: r).length) := by
      rw [List.drop_set_of_lt (by omega)]
      congr 1
      simp only [List.length_cons]; omega
    rw [e1, e2] at h3
    rw [World.setCells]
    simpa using h3

theorem owns_short {w : World} {B : Nat} {e : TypeId} {g n cap : Nat} {ys zs : List Value} (h : w.ownsRow B e 1 (.slice (some ⟨g, 0, none⟩) n cap) n (ys ++ zs)) {m : Nat} (hm : ys.length = m) : w.ownsRow B e 1 (.slice (some ⟨g, 0, none⟩) m cap) m ys := by
  have hx : (ys ++ zs).length = n := by simpa using h.1
  simp only [List.length_append] at hx
  rcases h.2 with ⟨h', _⟩ | ⟨g', cap', cur, h', hB, hh, h1, h2, h3, h4⟩
  · cases h'
  · simp only [Value.slice.injEq, Option.some.injEq, Addr.mk.injEq, and_true, true_and] at h'
    obtain ⟨rfl, rfl⟩ := h'
    refine ⟨by simpa using hm, .inr ⟨g, cap, cur, rfl, hB, hh, by omega, h2, h3, ?_⟩⟩
    have : (cur.toList.take (n * 1)).take (m * 1) = (ys ++ zs).take (m * 1) := by rw [h4]
    rw [List.take_take, Nat.min_eq_left (by omega)] at this
    rw [this, Nat.mul_one, ← hm, List.take_left']
    rfl

theorem zero29 (w : World) : (zeroValue 29).run Try.prog w = .ok (.int .i64 0) w := by kernel_rfl

set_option maxRecDepth 20000 in
set_option maxHeartbeats 2000000 in
theorem delete_any (B g cap k : Nat) (zs : List Int) (w : World) (hown : w.ownsRow B 29 1 (.slice (some ⟨g, 0, none⟩) zs.length cap) zs.length (zs.map (Value.int .i64))) (hk0 : 0 < k) (hk : k < zs.length) (hm : zs.length ≤ 1048576) :
    Calls Try.prog 53 #[.slice (some ⟨g, 0, none⟩) zs.length cap, .int .i64 0, .int .i64 k] w fun e w' => e = .returned (.slice (some ⟨g, 0, none⟩) (zs.length - k) cap) ∧
      w'.ownsRow B 29 1 (.slice (some ⟨g, 0, none⟩) (zs.length - k) cap) (zs.length - k) ((zs.drop k).map (Value.int .i64)) ∧ w.grownBy w' (some g) := by
  obtain ⟨i0, hi, hz0, hz1, hz2⟩ := info_parts Try.info29
  have hcap : zs.length ≤ cap ∧ cap ≤ maxLen := by
    rcases hown.2 with ⟨h', _⟩ | ⟨g', cap', cur, h', hB, hh, h1, h2, h3, h4⟩
    · cases h'
    · simp only [Value.slice.injEq, Option.some.injEq, Addr.mk.injEq, and_true, true_and] at h'
      obtain ⟨rfl, rfl⟩ := h'
      exact ⟨h1, h2⟩
  obtain ⟨hc1, hc2⟩ := hcap
  unfold maxLen at hc2
  have hd : w.drew.ownsRow B 29 1 (.slice (some ⟨g, 0, none⟩) zs.length cap) zs.length (zs.map (Value.int .i64)) := hown
  generalize hnews : (zs.drop k).map (Value.int .i64) = news
  have hlen : news.length = zs.length - k := by rw [← hnews]; simp
  have s1 : Hid (news.length = (zs.length - k) * 1) := by show _ = _; omega
  have s2 : Hid (∀ u ∈ news, u.oneCell' = true) := by rw [← hnews]; exact ints_one _
  have hsrc : Hid (∀ t u, news[t]? = some u → w.drew.cell? ((⟨g, k, none⟩ : Addr).add t) = some u) := fun t u hu => by
    have ht := (List.getElem?_eq_some_iff.1 hu).1
    rw [Addr.add_lit, hd.cellAt (k + t) (by omega)]
    rw [← hnews, List.getElem?_map, List.getElem?_drop] at hu
    rw [List.getElem?_map]
    exact hu
  have s3 : Hid (∀ t, t < news.length → (w.drew.cell? ⟨g, 0 + 0 * 1 + t, none⟩).isSome = true ∧ w.drew.frozen? ⟨g, 0 + 0 * 1 + t, none⟩ = false) := fun t ht => by
    refine ⟨?_, hd.frozenAt _⟩
    rw [hd.cellAt _ (by omega)]
    rw [List.getElem?_eq_getElem (by simp; omega)]
    rfl
  obtain ⟨o1, g1⟩ := owns_setCells news 0 _ _ hd (by omega)
  obtain ⟨W1, hW1⟩ : ∃ W1, W1 = w.drew.setCells g (0 + 0 * 1) news := ⟨_, rfl⟩
  have hW0 : w.drew.setCells g 0 news = W1 := by rw [hW1]
  rw [hW0] at o1 g1
  have hcl : ∀ ty, (Builtin.clear_ #[31] ty #[.slice (some ⟨g, zs.length - k, none⟩) (zs.length - (zs.length - k)) (cap - (zs.length - k))]).run Try.prog W1 = .ok (.tuple #[]) (W1.setCells g (zs.length - k) (List.replicate (zs.length - (zs.length - k)) (.int .i64 0))) :=
    fun ty => Lib.run_clear_slice W1 31 29 ty (.int .i64 0) Try.underlying31 zero29 rfl rfl g (zs.length - k) _ _ (by omega) (fun j hj => by
      rw [o1.cellAt _ (by omega)]
      have := o1.1
      rw [List.getElem?_eq_getElem (by omega)]
      rfl) (fun j hj => o1.frozenAt _)
  obtain ⟨o2, g2⟩ := owns_setCells (List.replicate (zs.length - (zs.length - k)) (Value.int .i64 0)) (zs.length - k) _ _ o1 (by simp)
  have hshape : ∃ tl, (((zs.map (Value.int .i64)).take 0 ++ news ++ (zs.map (Value.int .i64)).drop (0 + news.length)).take (zs.length - k) ++ List.replicate (zs.length - (zs.length - k)) (Value.int .i64 0) ++
      ((zs.map (Value.int .i64)).take 0 ++ news ++ (zs.map (Value.int .i64)).drop (0 + news.length)).drop (zs.length - k + (List.replicate (zs.length - (zs.length - k)) (Value.int .i64 0)).length)) = news ++ tl := by
    have e : ((zs.map (Value.int .i64)).take 0 ++ news ++ (zs.map (Value.int .i64)).drop (0 + news.length)).take (zs.length - k) = news := by
      simp only [List.take_zero, List.nil_append]
      rw [← hlen, List.take_left']
      rfl
    rw [e]
    exact ⟨_, List.append_assoc _ _ _⟩
  obtain ⟨tl, htl⟩ := hshape
  rw [htl] at o2
  have HO := hidden (owns_short o2 hlen)
  have hg0 : w.grownBy w.drew (some g) := ⟨rfl, rfl, rfl, Nat.le_refl _, fun _ _ _ => rfl⟩
  have HG := hidden ((hg0.andThen g1 (fun j hj => .inr hj)).andThen g2 (fun j hj => .inr hj))
  clear hg0
  have hW : Hid (W1 = w.drew.setCells g (0 + 0 * 1) news) := hW1
  have hki : (0 : Int) ≤ (k : Int) := by omega
  have hkle : k ≤ zs.length := by omega
  have hknc : ¬ cap = k := by omega
  clear hW1 hW0 o1 g1 o2 g2 htl hd hown
  go_enter Try.func53, Try.ntmps53
  go_wp2_with fail
  go_region_law (refine step_append_room rfl (.tmp 22) (.tmp 25) 31 rfl 29 i0 1 Try.underlying31 hi hz1 g 0 0 cap (by simp [Act.eval, Act.put]) ⟨g, k, none⟩ (zs.length - k) (cap - k) news (by simp [Act.eval, Act.put]) s1.out hsrc.out s2.out (by omega) s3.out ?_; rw [← hW.out])
  go_wp2_with fail
  go_ret
  exact ⟨rfl, HO.out, HG.out⟩

end Go.Proofs.Qxb6609132a
