import Derived.Test.Qxb6609132aClone2
namespace Go.Proofs.Qxb6609132a
open Go.RowKit

/-- A slice's elements are the moments zs. -/
def Ints (w : World) (a : Option Addr) (zs : List Int) : Prop :=
  zs = [] ∨ ∃ b off, a = some ⟨b, off, none⟩ ∧ ∀ i, i < zs.length → w.cell? ⟨b, off + i, none⟩ = some (.int .i64 (zs.getD i 0))

set_option maxHeartbeats 400000 in
theorem less_any (x y : Int) (w : World) : Calls Try.prog 59 #[.int .i64 x, .int .i64 y] w fun e w' => e = .returned (.bool (decide (x < y))) ∧ w' = w := by
  have h1 : (x != x) = false := by simp
  have h2 : (y != y) = false := by simp
  go_enter Try.func59, Try.ntmps59
  go_wp2
  go_ret
  exact ⟨by simp, rfl⟩

theorem countP_of {zs : List Int} {x : Int} {p : Nat} (hp : p ≤ zs.length) (h1 : ∀ t, t < p → zs.getD t 0 < x) (h2 : ∀ t, p ≤ t → t < zs.length → x ≤ zs.getD t 0) : zs.countP (· < x) = p := by
  have e : zs = zs.take p ++ zs.drop p := (List.take_append_drop p zs).symm
  rw [e, List.countP_append]
  have a1 : (zs.take p).countP (· < x) = (zs.take p).length := by
    rw [List.countP_eq_length]
    intro y hy
    obtain ⟨i, hi, rfl⟩ := List.getElem_of_mem hy
    have hi' : i < p := by simp at hi; omega
    have := h1 i hi'
    have hz : i < zs.length := by omega
    simp [List.getD, hz] at this
    simpa using this
  have a2 : (zs.drop p).countP (· < x) = 0 := by
    rw [List.countP_eq_zero]
    intro y hy
    obtain ⟨i, hi, rfl⟩ := List.getElem_of_mem hy
    have hi' : p + i < zs.length := by simp at hi; omega
    have := h2 (p + i) (by omega) hi'
    simp [List.getD, hi'] at this
    simpa using this
  rw [a1, a2]
  simp
  omega

theorem getD_mono {zs : List Int} (hso : zs.Pairwise (· ≤ ·)) {i j : Nat} (hij : i ≤ j) (hj : j < zs.length) : zs.getD i 0 ≤ zs.getD j 0 := by
  have hi : i < zs.length := by omega
  simp only [List.getD, hi, hj, List.getElem?_eq_getElem, Option.getD_some]
  by_cases e : i = j
  · subst e; omega
  · exact List.pairwise_iff_getElem.1 hso i j hi hj (by omega)

set_option maxHeartbeats 400000 in
theorem isNaN_any (x : Int) (w : World) : Calls Try.prog 60 #[.int .i64 x] w fun e w' => e = .returned (.bool false) ∧ w' = w := by
  have h1 : (x != x) = false := by simp
  go_enter Try.func60, Try.ntmps60
  go_wp2
  go_ret
  exact ⟨rfl, rfl⟩

/-- What slices.BinarySearch hands back: a place, and some bool. -/
def SearchIs (R : Nat) (e : Ending) : Prop := ∃ b, e = .returned (.tuple #[.int .i64 (R : Int), .bool b])
theorem searchIs_of {R p : Nat} (h : R = p) {b : Bool} : SearchIs R (.returned (.tuple #[.int .i64 (p : Int), .bool b])) := ⟨b, by rw [h]⟩

set_option maxHeartbeats 1000000 in
theorem search_any (a : Option Addr) (zs : List Int) (cap : Nat) (x : Int) (w : World) (hm : zs.length ≤ 1048576) (hs : Ints w a zs) (hso : zs.Pairwise (· ≤ ·)) :
    Calls Try.prog 52 #[.slice a zs.length cap, .int .i64 x] w fun e w' => SearchIs (zs.countP (· < x)) e ∧ w' = w := by
  have HSO : Hid (zs.Pairwise (· ≤ ·)) := hso
  clear hso
  generalize hR : zs.countP (· < x) = R
  have HR : Hid (zs.countP (· < x) = R) := hR
  clear hR
  go_enter Try.func52, Try.ntmps52
  go_wp2_with fail
  go_loop [7, 8] (fun i j => ∃ (p q : Nat), p ≤ q ∧ q ≤ zs.length ∧ i = .int .i64 p ∧ j = .int .i64 q ∧ Hid (∀ t, t < p → zs.getD t 0 < x) ∧ Hid (∀ t, q ≤ t → t < zs.length → x ≤ zs.getD t 0)) (fun i j => ((intOf j) - (intOf i)).toNat)
  case atStart => exact ⟨0, zs.length, Nat.zero_le _, Nat.le_refl _, rfl, rfl, fun t h => absurd h (Nat.not_lt_zero _), fun t h1 h2 => by omega⟩
  case round =>
    obtain ⟨p, q, hpq, hq, rfl, rfl, H1, H2⟩ := hrel
    by_cases hlt : p < q
    · rcases hs with rfl | ⟨b, off, rfl, hc⟩
      · simp at hq; omega
      have hcell := hc ((p + q) / 2) (by omega)
      clear hc
      by_cases hy : zs.getD ((p + q) / 2) 0 < x
      · have HN : Hid (∀ t, t < (p + q) / 2 + 1 → zs.getD t 0 < x) := fun t ht => by
          have := getD_mono HSO.out (i := t) (j := (p + q) / 2) (by omega) (by omega)
          omega
        have hd : decide (zs.getD ((p + q) / 2) 0 < x) = true := by simpa using hy
        clear hy
        generalize zs.getD ((p + q) / 2) 0 = y at hcell hd
        go_wp2_with fail
        refine (less_any y x _).mono ?_
        rintro e w' ⟨rfl, rfl⟩
        rw [hd]
        go_wp2_with fail
        go_round
        case rel => exact ⟨(p + q) / 2 + 1, q, by omega, hq, by go_num, rfl, HN, H2⟩
        case measure => simp [intOf]; omega
      · have HN : Hid (∀ t, (p + q) / 2 ≤ t → t < zs.length → x ≤ zs.getD t 0) := fun t ht ht' => by
          have := getD_mono HSO.out (i := (p + q) / 2) (j := t) (by omega) (by omega)
          omega
        have hd : decide (zs.getD ((p + q) / 2) 0 < x) = false := by simpa using hy
        clear hy
        generalize zs.getD ((p + q) / 2) 0 = y at hcell hd
        go_wp2_with fail
        refine (less_any y x _).mono ?_
        rintro e w' ⟨rfl, rfl⟩
        rw [hd]
        go_wp2_with fail
        go_round
        case rel => exact ⟨p, (p + q) / 2, by omega, by omega, rfl, by go_num, H1, HN⟩
        case measure => simp [intOf]; omega
    · have HE : Hid (R = p) := by
        have e : p = q := by omega
        subst e
        rw [← HR.out]
        exact countP_of hq H1.out H2.out
      by_cases hpn : p < zs.length
      · rcases hs with rfl | ⟨b, off, rfl, hc⟩
        · simp at hpn
        have hcell := hc p hpn
        clear hc
        generalize zs.getD p 0 = y at hcell
        cases hyx : (y == x)
        · go_wp2_with (go_at_call 60; refine (isNaN_any _ _).mono ?_; rintro e w' ⟨rfl, rfl⟩)
          go_ret2
          exact ⟨searchIs_of HE.out, rfl⟩
        · go_wp2_with fail
          go_ret2
          exact ⟨searchIs_of HE.out, rfl⟩
      · go_wp2_with fail
        go_ret2
        exact ⟨searchIs_of HE.out, rfl⟩

end Go.Proofs.Qxb6609132a
