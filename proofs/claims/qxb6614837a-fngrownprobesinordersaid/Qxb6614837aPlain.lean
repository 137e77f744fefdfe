import Derived.Test.Qxb6614837aLeaf
namespace Go.Proofs.Qxb6614837a
open Go.RowKit

def dist (n i r : Nat) : Nat := if i ≤ r then r - i else r + n - i
def nxt (n i : Nat) : Nat := if i + 1 = n then 0 else i + 1

theorem nxt_lt {n i : Nat} (hi : i < n) : nxt n i < n := by unfold nxt; split <;> omega
theorem dist_self (n i : Nat) : dist n i i = 0 := by unfold dist; split <;> omega
theorem dist_pos {n i q : Nat} (hi : i < n) (h : i ≠ q) : 0 < dist n i q := by unfold dist; split <;> omega
theorem dist_nxt {n i q : Nat} (hi : i < n) (hq : q < n) (h : i ≠ q) : dist n (nxt n i) q + 1 = dist n i q := by
  unfold dist nxt; split <;> split <;> split <;> omega
theorem dist_nxt_lt {n i q r : Nat} (hi : i < n) (hq : q < n) (hr : r < n) (hne : i ≠ q) (h : dist n (nxt n i) r < dist n (nxt n i) q) : dist n i r < dist n i q := by
  by_cases e : i = r
  · subst e; rw [dist_self]; exact dist_pos hi hne
  · have := dist_nxt hi hr e; have := dist_nxt hi hq hne; omega

theorem first_of {n i : Nat} (P : Nat → Prop) : ∀ (k r : Nat), r < n → P r → dist n i r ≤ k → ∃ q, q < n ∧ P q ∧ ∀ r, r < n → dist n i r < dist n i q → ¬ P r := by
  intro k
  induction k with
  | zero => intro r hr hp hd; exact ⟨r, hr, hp, fun t _ ht => by omega⟩
  | succ k ih =>
    intro r hr hp hd
    by_cases h : ∃ t, t < n ∧ P t ∧ dist n i t ≤ k
    · obtain ⟨t, h1, h2, h3⟩ := h
      exact ih t h1 h2 h3
    · refine ⟨r, hr, hp, fun t ht hl hpt => h ⟨t, ht, hpt, by omega⟩⟩

/-- What stands when the first k slots of zs lie in the table g, slot j at pos j. -/
structure Grown (home : Int → Nat) (zs : List Int) (k : Nat) (g : List Int) (pos : Nat → Nat) : Prop where
  len : g.length = 2 * zs.length
  put : ∀ j, j < k → zs.getD j 0 ≠ 0 → pos j < g.length ∧ g.getD (pos j) 0 = zs.getD j 0
  path : ∀ j, j < k → zs.getD j 0 ≠ 0 → ∀ r, r < g.length → dist g.length (home (zs.getD j 0)) r < dist g.length (home (zs.getD j 0)) (pos j) → ∃ i, i < j ∧ zs.getD i 0 ≠ 0 ∧ pos i = r
  only : ∀ r, r < g.length → g.getD r 0 ≠ 0 → ∃ j, j < k ∧ zs.getD j 0 ≠ 0 ∧ pos j = r
  count : g.countP (· != 0) = (zs.take k).countP (· != 0)

theorem grown_start (home : Int → Nat) (zs : List Int) : Grown home zs 0 (List.replicate (2 * zs.length) 0) (fun _ => 0) where
  len := by simp
  put := fun j h => absurd h (Nat.not_lt_zero _)
  path := fun j h => absurd h (Nat.not_lt_zero _)
  only := fun r h h' => by
    exfalso; apply h'
    simp at h
    simp [List.getD, h]
  count := by simp [List.countP_replicate]

theorem count_succ {zs : List Int} {k : Nat} (hk : k < zs.length) : (zs.take (k + 1)).countP (· != 0) = (zs.take k).countP (· != 0) + (if zs.getD k 0 = 0 then 0 else 1) := by
  rw [List.take_succ_eq_append_getElem hk, List.countP_append]
  simp [List.getD, hk, List.countP_cons]

theorem Grown.skip {home : Int → Nat} {zs : List Int} {k : Nat} {g : List Int} {pos : Nat → Nat} (h : Grown home zs k g pos) (hk : k < zs.length) (hz : zs.getD k 0 = 0) : Grown home zs (k + 1) g pos where
  len := h.len
  put := fun j hj hn => h.put j (by rcases Nat.lt_or_ge j k with h | h; exact h; exfalso; have : j = k := by omega
                                    subst this; exact hn hz) hn
  path := fun j hj hn => h.path j (by rcases Nat.lt_or_ge j k with h | h; exact h; exfalso; have : j = k := by omega
                                      subst this; exact hn hz) hn
  only := fun r hr hn => by
    obtain ⟨j, h1, h2, h3⟩ := h.only r hr hn
    exact ⟨j, by omega, h2, h3⟩
  count := by rw [count_succ hk, if_pos hz, h.count]; rfl

theorem Grown.room {home : Int → Nat} {zs : List Int} {k : Nat} {g : List Int} {pos : Nat → Nat} (h : Grown home zs k g pos) (hk : k < zs.length) : ∃ r, r < g.length ∧ g.getD r 0 = 0 := by
  apply Classical.byContradiction
  intro hno
  have hall : ∀ x ∈ g, (x != 0) = true := by
    intro x hx
    obtain ⟨r, hr, rfl⟩ := List.getElem_of_mem hx
    rw [bne_iff_ne]
    intro e
    exact hno ⟨r, hr, by simp [List.getD, hr, e]⟩
  have h1 := List.countP_eq_length.2 hall
  have h2 : (zs.take k).countP (· != 0) ≤ (zs.take k).length := List.countP_le_length
  have h3 := h.count
  have h4 := h.len
  simp only [List.length_take] at h2
  omega

theorem getD_set {g : List Int} {q r : Nat} {v : Int} (hq : q < g.length) : (g.set q v).getD r 0 = if r = q then v else g.getD r 0 := by
  simp only [List.getD, List.getElem?_set]
  by_cases e : r = q
  · subst e; simp [hq]
  · rw [if_neg e, if_neg (Ne.symm e)]

theorem Grown.add {home : Int → Nat} {zs : List Int} {k : Nat} {g : List Int} {pos : Nat → Nat} (h : Grown home zs k g pos) (hk : k < zs.length) (hz : zs.getD k 0 ≠ 0) {q : Nat} (hq : q < g.length)
    (h0 : g.getD q 0 = 0) (hp : ∀ r, r < g.length → dist g.length (home (zs.getD k 0)) r < dist g.length (home (zs.getD k 0)) q → ¬ g.getD r 0 = 0) :
    Grown home zs (k + 1) (g.set q (zs.getD k 0)) (fun j => if j = k then q else pos j) where
  len := by simp [h.len]
  put := fun j hj hn => by
    simp only [List.length_set]
    by_cases e : j = k
    · subst e
      rw [if_pos rfl]
      exact ⟨hq, by rw [getD_set hq, if_pos rfl]⟩
    · rw [if_neg e]
      obtain ⟨h1, h2⟩ := h.put j (by omega) hn
      refine ⟨h1, ?_⟩
      rw [getD_set hq, if_neg]
      · exact h2
      · intro e'
        rw [e'] at h2
        rw [h0] at h2
        exact hn h2.symm
  path := fun j hj hn r hr hd => by
    simp only [List.length_set] at hr hd
    by_cases e : j = k
    · subst e
      rw [if_pos rfl] at hd
      obtain ⟨i, h1, h2, h3⟩ := h.only r hr (hp r hr hd)
      exact ⟨i, h1, h2, by rw [if_neg (by omega)]; exact h3⟩
    · rw [if_neg e] at hd
      obtain ⟨i, h1, h2, h3⟩ := h.path j (by omega) hn r hr hd
      exact ⟨i, h1, h2, by rw [if_neg (by omega)]; exact h3⟩
  only := fun r hr hn => by
    simp only [List.length_set] at hr
    rw [getD_set hq] at hn
    by_cases e : r = q
    · exact ⟨k, by omega, hz, by rw [if_pos rfl, e]⟩
    · rw [if_neg e] at hn
      obtain ⟨j, h1, h2, h3⟩ := h.only r hr hn
      exact ⟨j, by omega, h2, by rw [if_neg (by omega)]; exact h3⟩
  count := by
    have e : g[q] = 0 := by simpa [List.getD, hq] using h0
    rw [count_succ hk, if_neg hz, List.countP_set hq, ← h.count, e]
    simp
    exact hz

/-- No two slots that are not empty are equal. -/
def Distinct (zs : List Int) : Prop := ∀ i j, i < j → j < zs.length → zs.getD i 0 ≠ 0 → zs.getD j 0 ≠ zs.getD i 0

theorem Distinct.inj {zs : List Int} (h : Distinct zs) {i j : Nat} (hi : i < zs.length) (hj : j < zs.length) (hn : zs.getD i 0 ≠ 0) (e : zs.getD i 0 = zs.getD j 0) : i = j := by
  rcases Nat.lt_trichotomy i j with hlt | he | hgt
  · exact absurd e.symm (h i j hlt hj hn)
  · exact he
  · exact absurd e (h j i hgt hi (by rw [← e]; exact hn))

/-- The slot found is the one. -/
theorem Grown.uniq {home : Int → Nat} {zs : List Int} {g : List Int} {pos : Nat → Nat} (h : Grown home zs zs.length g pos) (hd : Distinct zs) {j r : Nat} (hj : j < zs.length) (hn : zs.getD j 0 ≠ 0)
    (hr : r < g.length) (e : g.getD r 0 = zs.getD j 0) : r = pos j := by
  obtain ⟨i, h1, h2, h3⟩ := h.only r hr (by rw [e]; exact hn)
  have h4 := (h.put i h1 h2).2
  rw [h3, e] at h4
  have := hd.inj h1 hj h2 h4.symm
  rw [← this]; exact h3.symm

theorem hash_nat (x m : Int) : ∃ H : Nat, hashP x m = H ∧ H < 18446744073709551616 := by
  unfold hashP
  rw [IntKind.wrap_u64]
  exact ⟨(IntKind.u64.wrap x * m % 18446744073709551616).toNat, by omega, by omega⟩

theorem home_lt {H n : Nat} (hH : H < 18446744073709551616) (hn : 0 < n) : H * n / 18446744073709551616 < n := by
  rw [Nat.div_lt_iff_lt_mul (by omega), Nat.mul_comm n]
  exact Nat.mul_lt_mul_of_pos_right hH hn

end Go.Proofs.Qxb6614837a
