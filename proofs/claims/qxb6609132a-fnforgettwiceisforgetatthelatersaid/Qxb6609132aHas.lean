import Derived.Test.Qxb6609132aSite
namespace Go.Proofs.Qxb6609132a
open Go.RowKit

def hasS (ss : List ByteArray) (x : ByteArray) : Bool := ss.any fun s => s.toList == x.toList

theorem bytes_ext {x y : ByteArray} (h : x.toList = y.toList) : x = y := by
  rw [ByteArray.toList_eq, ByteArray.toList_eq] at h
  cases x; cases y
  simp at h
  simp [h]
theorem str_yes {x y : ByteArray} (h : (x.toList == y.toList) = true) : x = y := bytes_ext (by simpa using h)
theorem str_no {x y : ByteArray} (h : (x.toList == y.toList) = false) : x ≠ y := fun e => by subst e; simp at h
theorem str_same (x : ByteArray) : (x.toList == x.toList) = true := by simp
theorem str_other {x y : ByteArray} (h : x ≠ y) : (x.toList == y.toList) = false := by
  cases hb : (x.toList == y.toList)
  · rfl
  · exact absurd (str_yes hb) h

theorem hasS_yes {ss : List ByteArray} {x : ByteArray} (h : x ∈ ss) : hasS ss x = true := List.any_eq_true.2 ⟨x, h, str_same x⟩
theorem hasS_no {ss : List ByteArray} {x : ByteArray} (h : x ∉ ss) : hasS ss x = false := by
  cases hb : hasS ss x
  · rfl
  · obtain ⟨y, hy, e⟩ := List.any_eq_true.1 hb
    exact absurd (str_yes e ▸ hy) h
theorem hasS_iff {ss : List ByteArray} {x : ByteArray} : hasS ss x = true ↔ x ∈ ss := by
  constructor
  · intro hb
    obtain ⟨y, hy, e⟩ := List.any_eq_true.1 hb
    exact str_yes e ▸ hy
  · exact hasS_yes

theorem getD_lt {ss : List ByteArray} {k : Nat} (hk : k < ss.length) : ss.getD k ByteArray.empty = ss[k] := by simp [List.getD, hk]

theorem mem_of_getD {ss : List ByteArray} {k : Nat} (hk : k < ss.length) : ss.getD k ByteArray.empty ∈ ss := by
  rw [getD_lt hk]; exact List.getElem_mem hk
theorem not_mem_of_getD {ss : List ByteArray} {x : ByteArray} (h : ∀ j, j < ss.length → ss.getD j ByteArray.empty ≠ x) : x ∉ ss := by
  intro hx
  obtain ⟨i, hi, e⟩ := List.getElem_of_mem hx
  exact h i hi (by rw [getD_lt hi]; exact e)

set_option maxHeartbeats 400000 in
theorem index_any (a : Option Addr) (ss : List ByteArray) (cap : Nat) (x : ByteArray) (w : World) (hm : ss.length ≤ 9223372036854775807) (hs : Strs w a ss) :
    Calls Try.prog 55 #[.slice a ss.length cap, .string x] w fun e w' => (∃ r : Int, e = .returned (.int .i64 r) ∧ decide (0 ≤ r) = hasS ss x) ∧ w' = w := by
  go_enter Try.func55, Try.ntmps55
  go_wp2_with fail
  go_loop [8] (fun i => ∃ (k : Nat), k ≤ ss.length ∧ i = .int .i64 k ∧ ∀ j, j < k → ss.getD j ByteArray.empty ≠ x) (fun i => ss.length - (intOf i).toNat)
  case atStart => exact ⟨0, Nat.zero_le _, rfl, fun j hj => absurd hj (Nat.not_lt_zero _)⟩
  case round =>
    obtain ⟨k, hk, rfl, hno⟩ := hrel
    have HN : Hid (∀ j, j < k → ss.getD j ByteArray.empty ≠ x) := hno
    clear hno
    by_cases hlt : k < ss.length
    · rcases hs with rfl | ⟨b, off, rfl, hc⟩
      · simp at hlt
      have hcell := hc k hlt
      clear hc
      generalize hy : ss.getD k ByteArray.empty = y at hcell
      have HY : Hid (ss.getD k ByteArray.empty = y) := hy
      clear hy
      by_cases hxy : (x.toList == y.toList) = true
      · have HX : Hid (x ∈ ss) := by have e := str_yes hxy; rw [e, ← HY.out]; exact mem_of_getD hlt
        go_wp2_with fail
        go_ret
        exact ⟨⟨k, rfl, by rw [hasS_yes HX.out]; simp⟩, rfl⟩
      · have hxy' : (x.toList == y.toList) = false := by simpa using hxy
        have HX : Hid (∀ j, j < k + 1 → ss.getD j ByteArray.empty ≠ x) := by
          intro j hj
          by_cases e : j = k
          · subst e; rw [HY.out]; exact (str_no hxy').symm
          · exact HN.out j (by omega)
        clear hxy
        go_wp2_with fail
        go_round
        case rel => exact ⟨k + 1, by omega, by go_num, HX.out⟩
        case measure => simp [intOf]; omega
    · clear hs
      go_wp2_with fail
      go_ret
      refine ⟨⟨-1, rfl, ?_⟩, rfl⟩
      have := not_mem_of_getD (ss := ss) (x := x) (fun j hj => HN.out j (by omega))
      rw [hasS_no this]; rfl

set_option maxHeartbeats 400000 in
theorem contains_any (a : Option Addr) (ss : List ByteArray) (cap : Nat) (x : ByteArray) (w : World) (hm : ss.length ≤ 9223372036854775807) (hs : Strs w a ss) :
    Calls Try.prog 38 #[.slice a ss.length cap, .string x] w fun e w' => e = .returned (.bool (hasS ss x)) ∧ w' = w := by
  go_enter Try.func38, Try.ntmps38
  go_wp2_with fail
  refine (index_any a ss cap x _ hm hs).mono ?_
  rintro e w' ⟨⟨r, rfl, hr⟩, rfl⟩
  have HR : Hid (decide (0 ≤ r) = hasS ss x) := hr
  clear hr
  go_wp2_with fail
  go_ret
  exact ⟨by rw [← HR.out]; rfl, rfl⟩

set_option maxHeartbeats 400000 in
theorem zzHas_any (a : Option Addr) (ss : List ByteArray) (cap : Nat) (x : ByteArray) (w : World) (hm : ss.length ≤ 9223372036854775807) (hs : Strs w a ss) :
    Calls Try.prog 25 #[.slice a ss.length cap, .string x] w fun e w' => e = .returned (.bool (hasS ss x)) ∧ w' = w := by
  go_enter Try.func25, Try.ntmps25
  go_wp2_with fail
  go_loop [5] (fun i => ∃ (k : Nat), k ≤ ss.length ∧ i = .int .i64 k ∧ ∀ j, j < k → ss.getD j ByteArray.empty ≠ x) (fun i => ss.length - (intOf i).toNat)
  case atStart => exact ⟨0, Nat.zero_le _, rfl, fun j hj => absurd hj (Nat.not_lt_zero _)⟩
  case round =>
    obtain ⟨k, hk, rfl, hno⟩ := hrel
    have HN : Hid (∀ j, j < k → ss.getD j ByteArray.empty ≠ x) := hno
    clear hno
    by_cases hlt : k < ss.length
    · rcases hs with rfl | ⟨b, off, rfl, hc⟩
      · simp at hlt
      have hcell := hc k hlt
      clear hc
      generalize hy : ss.getD k ByteArray.empty = y at hcell
      have HY : Hid (ss.getD k ByteArray.empty = y) := hy
      clear hy
      by_cases hxy : (y.toList == x.toList) = true
      · have HX : Hid (x ∈ ss) := by have e := str_yes hxy; rw [← e, ← HY.out]; exact mem_of_getD hlt
        go_wp2_with fail
        go_ret
        exact ⟨by rw [hasS_yes HX.out]; rfl, rfl⟩
      · have hxy' : (y.toList == x.toList) = false := by simpa using hxy
        have HX : Hid (∀ j, j < k + 1 → ss.getD j ByteArray.empty ≠ x) := by
          intro j hj
          by_cases e : j = k
          · subst e; rw [HY.out]; exact str_no hxy'
          · exact HN.out j (by omega)
        clear hxy
        go_wp2_with fail
        go_round
        case rel => exact ⟨k + 1, by omega, by go_num, HX.out⟩
        case measure => simp [intOf]; omega
    · clear hs
      go_wp2_with fail
      go_ret
      have := not_mem_of_getD (ss := ss) (x := x) (fun j hj => HN.out j (by omega))
      exact ⟨by rw [hasS_no this]; rfl, rfl⟩

end Go.Proofs.Qxb6609132a
