import Derived.Test.Qxb6614837aShim
namespace Go.Proofs.Qxb6614837a
open Go.RowKit

/-- A slice's elements are the numbers zs. -/
def Src (w : World) (a : Option Addr) (zs : List Int) : Prop := zs = [] ∨ ∃ x, a = some x ∧ ∀ i, i < zs.length → w.cell? (x.add i) = some (.int .u32 (zs.getD i 0))

theorem Lies.src {w : World} {tb : Nat} {g : List Int} (h : Lies w tb g) : Src w (some ⟨tb, 0, none⟩) g := .inr ⟨_, rfl, fun i hi => by rw [Addr.add_lit]; simpa using h i hi⟩
theorem Tab.src {w : World} {a : Option Addr} {cap : Nat} {zs : List Int} (h : Tab w a cap zs) : Src w a zs := by
  rcases h with h | ⟨tb, rfl, h⟩
  · exact .inl h.2.2
  · exact h.src

set_option maxHeartbeats 1000000 in
theorem count_any (a : Option Addr) (cap : Nat) (zs : List Int) (w : World) (hm : zs.length ≤ 1048576) (hs : Src w a zs) :
    Calls Try.prog 8 #[.slice a zs.length cap] w fun e w' => e = .returned (.int .i64 (zs.countP (· != 0) : Nat)) ∧ w' = w := by
  go_enter Try.func8, Try.ntmps8
  go_wp2_with fail
  go_loop [3, 4] (fun c i => ∃ (k : Nat), k ≤ zs.length ∧ i = .int .i64 k ∧ c = .int .i64 ((zs.take k).countP (· != 0) : Nat)) (fun _ i => zs.length - (intOf i).toNat)
  case atStart => exact ⟨0, Nat.zero_le _, rfl, by simp⟩
  case round =>
    obtain ⟨k, hk, rfl, rfl⟩ := hrel
    by_cases hlt : k < zs.length
    · rcases hs with h | ⟨x, rfl, hc⟩
      · rw [h] at hlt; simp at hlt
      have hcell := hc k hlt
      have hle : (zs.take k).countP (· != 0) ≤ 1048576 := Nat.le_trans List.countP_le_length (by simp; omega)
      have HE := hidden (count_succ hlt)
      generalize (zs.take k).countP (· != 0) = c at hle HE
      generalize hc' : (zs.take (k + 1)).countP (· != 0) = c' at HE
      have HC := hidden hc'
      clear hc'
      clear hc
      by_cases hz : zs.getD k 0 = 0
      · rw [if_pos hz] at HE
        rw [hz] at hcell
        clear hz
        go_wp2_with fail
        go_round
        case rel => exact ⟨k + 1, by omega, by go_num, by rw [HC.out, HE.out]; rfl⟩
        case measure => simp [intOf]; omega
      · rw [if_neg hz] at HE
        have hb : (zs.getD k 0 != 0) = true := by rw [bne_iff_ne]; exact hz
        clear hz
        generalize zs.getD k 0 = s at hcell hb
        go_wp2_with fail
        go_round
        case rel => exact ⟨k + 1, by omega, by go_num, by rw [HC.out, HE.out]; go_num⟩
        case measure => simp [intOf]; omega
    · have e : k = zs.length := by omega
      subst e
      rw [List.take_length]
      clear hs
      generalize hc' : zs.countP (· != 0) = c
      have HC := hidden hc'
      clear hc'
      go_wp2_with fail
      go_ret
      exact ⟨by rw [HC.out]; rfl, rfl⟩

/-- It returned a bool; where that is true, p. -/
def Tells (p : Prop) (e : Ending) : Prop := ∃ d : Bool, e = .returned (.bool d) ∧ (d = true → p)
theorem tells_no {p : Prop} : Tells p (.returned (.bool false)) := ⟨false, rfl, fun h => by cases h⟩
theorem tells_yes {p : Prop} (h : p) : Tells p (.returned (.bool true)) := ⟨true, rfl, fun _ => h⟩

set_option maxRecDepth 20000 in
set_option maxHeartbeats 2000000 in
theorem distinct_any (a : Option Addr) (cap : Nat) (zs : List Int) (w : World) (hm : zs.length ≤ 1048576) (hs : Src w a zs) :
    Calls Try.prog 6 #[.slice a zs.length cap] w fun e w' => Tells (Distinct zs) e ∧ w.grownBy w' none := by
  go_enter Try.func6, Try.ntmps6
  go_wp2_with fail
  go_loopw [3] (fun i wr => ∃ (k : Nat), k ≤ zs.length ∧ i = .int .i64 k ∧ Hid (∀ i j, i < j → j < zs.length → i < k → zs.getD i 0 ≠ 0 → zs.getD j 0 ≠ zs.getD i 0) ∧ w.grownBy wr none) (fun i _ => zs.length - (intOf i).toNat)
  case atStart => exact ⟨0, Nat.zero_le _, rfl, fun i j _ _ h => absurd h (Nat.not_lt_zero _), World.grownBy.refl _ _⟩
  case round =>
    obtain ⟨k, hk, rfl, HD, hg⟩ := hrel
    by_cases hlt : k < zs.length
    · rcases hs with h | ⟨x, rfl, hc0⟩
      · rw [h] at hlt; simp at hlt
      have HC := hidden hc0
      clear hc0
      have hcell := hg.cell (HC.out k hlt) (by simp)
      by_cases hz : zs.getD k 0 = 0
      · have HN : Hid (∀ i j, i < j → j < zs.length → i < k + 1 → zs.getD i 0 ≠ 0 → zs.getD j 0 ≠ zs.getD i 0) := fun i j h1 h2 h3 h4 => by
          rcases Nat.lt_or_ge i k with h | h
          · exact HD.out i j h1 h2 h h4
          · have : i = k := by omega
            subst this; exact absurd hz h4
        rw [hz] at hcell
        clear hz
        go_wp2_with fail
        go_roundw
        case rel => exact ⟨k + 1, by omega, by go_num, HN, hg⟩
        case measure => simp [intOf]; omega
      · have hb : (zs.getD k 0 == 0) = false := by rw [beq_eq_false_iff_ne]; exact hz
        clear hz
        generalize hs0 : zs.getD k 0 = s at hcell hb
        have HS := hidden hs0
        clear hs0
        go_wp2_with fail
        go_loopw [4] (fun i wr => ∃ (j : Nat), k < j ∧ j ≤ zs.length ∧ i = .int .i64 j ∧ Hid (∀ t, k < t → t < j → zs.getD t 0 ≠ s) ∧ w.grownBy wr none) (fun i _ => zs.length - (intOf i).toNat)
        case atStart => exact ⟨k + 1, by omega, by omega, by go_num, fun t h1 h2 => by omega, hg⟩
        case round =>
          clear hcell hg
          obtain ⟨j, hkj, hj, rfl, HJ, hg⟩ := hrel
          by_cases hlj : j < zs.length
          · have d1 := hg.cell (HC.out k hlt) (by simp)
            have d2 := hg.cell (HC.out j hlj) (by simp)
            rw [HS.out] at d1
            generalize ht0 : zs.getD j 0 = t at d2
            have HT := hidden ht0
            clear ht0
            have i1 : (0 : Int) ≤ (k : Int) := by omega
            have i2 : (k : Int) < (zs.length : Int) := by omega
            have i3 : (0 : Int) ≤ (j : Int) := by omega
            have i4 : (j : Int) < (zs.length : Int) := by omega
            cases hts : (t == s)
            · have HN : Hid (∀ u, k < u → u < j + 1 → zs.getD u 0 ≠ s) := fun u h1 h2 => by
                rcases Nat.lt_or_ge u j with h | h
                · exact HJ.out u h1 h
                · have : u = j := by omega
                  subst this; rw [HT.out]; exact beq_eq_false_iff_ne.1 hts
              clear HJ
              go_wp2_with fail
              go_quiet (fail)
              go_wp2_with fail
              go_roundw
              case rel => exact ⟨j + 1, by omega, by omega, by go_num, HN, grown_drewN hg _⟩
              case measure => simp [intOf]; omega
            · go_wp2_with fail
              go_quiet (fail)
              go_wp2_with fail
              go_ret
              exact ⟨tells_no, grown_drewN hg _⟩
          · have HN : Hid (∀ i j, i < j → j < zs.length → i < k + 1 → zs.getD i 0 ≠ 0 → zs.getD j 0 ≠ zs.getD i 0) := fun i j' h1 h2 h3 h4 => by
              rcases Nat.lt_or_ge i k with h | h
              · exact HD.out i j' h1 h2 h h4
              · have : i = k := by omega
                subst this; rw [HS.out]; exact HJ.out j' h1 (by omega)
            go_wp2_with fail
            go_roundw
            case rel => exact ⟨k + 1, by omega, by go_num, HN, hg⟩
            case measure => simp [intOf]; omega
    · clear hs
      have HN := hidden (show Distinct zs from fun i j h1 h2 h3 => HD.out i j h1 h2 (by omega) h3)
      clear HD
      go_wp2_with fail
      go_ret
      exact ⟨tells_yes HN.out, hg⟩

set_option maxHeartbeats 400000 in
theorem bytes5 (a : Option Addr) (n cap : Nat) (x y z : Int) (w : World) : Calls Try.prog 5 #[.slice a n cap, .int .i32 x, .int .i64 y, .int .u64 z] w fun e w' => Tells True e ∧ w' = w := by
  by_cases h : (1048576 : Int) < n
  · go_enter Try.func5, Try.ntmps5
    go_wp2
    go_ret
    exact ⟨tells_no, rfl⟩
  · go_enter Try.func5, Try.ntmps5
    go_wp2
    go_ret
    exact ⟨tells_yes trivial, rfl⟩

set_option maxHeartbeats 400000 in
theorem bytes10 (a : Option Addr) (n cap : Nat) (x y z : Int) (w : World) : Calls Try.prog 10 #[.slice a n cap, .int .i32 x, .int .i64 y, .int .u64 z] w fun e w' => Tells True e ∧ w' = w := by
  by_cases h : (1048576 : Int) < n
  · go_enter Try.func10, Try.ntmps10
    go_wp2
    go_ret
    exact ⟨tells_no, rfl⟩
  · go_enter Try.func10, Try.ntmps10
    go_wp2
    go_ret
    exact ⟨tells_yes trivial, rfl⟩

/-- The tag of the slot s is that of its key's hash. -/
def Fits (o b m s : Int) : Prop := (s / 2 ^ min b.toNat 32 == tagP (hashP (keyP o b s) m) b) = true

set_option maxRecDepth 20000 in
set_option maxHeartbeats 2000000 in
theorem tags_any (a : Option Addr) (cap : Nat) (zs : List Int) (o b m : Int) (w : World) (hb : 0 ≤ b) (hb' : b ≤ 9223372036854775807) (hm : zs.length ≤ 1048576) (hs : Src w a zs) (hw : ∀ i, i < zs.length → 0 ≤ zs.getD i 0 ∧ zs.getD i 0 < 4294967296) :
    Calls Try.prog 11 #[.slice a zs.length cap, .int .i32 o, .int .i64 b, .int .u64 m] w fun e w' => Tells (∀ j, j < zs.length → zs.getD j 0 ≠ 0 → Fits o b m (zs.getD j 0)) e ∧ w' = w := by
  go_enter Try.func11, Try.ntmps11
  go_wp2_with fail
  go_loop [9] (fun i => ∃ (k : Nat), k ≤ zs.length ∧ i = .int .i64 k ∧ Hid (∀ j, j < k → zs.getD j 0 ≠ 0 → Fits o b m (zs.getD j 0))) (fun i => zs.length - (intOf i).toNat)
  case atStart => exact ⟨0, Nat.zero_le _, rfl, fun j h => absurd h (Nat.not_lt_zero _)⟩
  case round =>
    obtain ⟨k, hk, rfl, HD⟩ := hrel
    by_cases hlt : k < zs.length
    · rcases hs with h | ⟨x, rfl, hc0⟩
      · rw [h] at hlt; simp at hlt
      have hcell := hc0 k hlt
      have h0 := (hw k hlt).1
      have h1 := (hw k hlt).2
      have HN : Hid ((zs.getD k 0 ≠ 0 → Fits o b m (zs.getD k 0)) → ∀ j, j < k + 1 → zs.getD j 0 ≠ 0 → Fits o b m (zs.getD j 0)) := fun h j hj hn => by
        rcases Nat.lt_or_ge j k with h' | h'
        · exact HD.out j h' hn
        · have : j = k := by omega
          subst this; exact h hn
      clear hc0 hw HD
      by_cases hz : zs.getD k 0 = 0
      · have HN2 := hidden (HN.out (fun h => absurd hz h))
        rw [hz] at hcell
        clear hz HN h0 h1
        go_wp2_with fail
        go_round
        case rel => exact ⟨k + 1, by omega, by go_num, HN2⟩
        case measure => simp [intOf]; omega
      · have hn : (zs.getD k 0 == 0) = false := by rw [beq_eq_false_iff_ne]; exact hz
        generalize hs0 : zs.getD k 0 = s at hcell hn h0 h1 HN
        clear hs0 hz
        cases hf : (s / 2 ^ sb b != tagP (hashP (keyP o b s) m) b)
        · have HN2 := hidden (HN.out (fun _ => by
            unfold Fits
            have e : (s / 2 ^ min b.toNat 32 != tagP (hashP (keyP o b s) m) b) = false := hf
            simpa using e))
          clear HN
          go_wp2_with (first
            | (go_at_call 20; refine (tagSlot_any b s hb hb' h0 h1 _).mono ?_; rintro e w' ⟨rfl, rfl⟩)
            | (go_at_call 12; refine (span_any o b s hb hb' _).mono ?_; rintro e w' ⟨rfl, rfl⟩)
            | (go_at_call 14; refine (hash_any _ m _).mono ?_; rintro e w' ⟨rfl, rfl⟩)
            | (go_at_call 21; refine (tagHash_any _ b hb hb' _).mono ?_; rintro e w' ⟨rfl, rfl⟩))
          go_round
          case rel => exact ⟨k + 1, by omega, by go_num, HN2⟩
          case measure => simp [intOf]; omega
        · go_wp2_with (first
            | (go_at_call 20; refine (tagSlot_any b s hb hb' h0 h1 _).mono ?_; rintro e w' ⟨rfl, rfl⟩)
            | (go_at_call 12; refine (span_any o b s hb hb' _).mono ?_; rintro e w' ⟨rfl, rfl⟩)
            | (go_at_call 14; refine (hash_any _ m _).mono ?_; rintro e w' ⟨rfl, rfl⟩)
            | (go_at_call 21; refine (tagHash_any _ b hb hb' _).mono ?_; rintro e w' ⟨rfl, rfl⟩))
          go_ret
          exact ⟨tells_no, rfl⟩
    · clear hs hw
      have HN := hidden (show ∀ j, j < zs.length → zs.getD j 0 ≠ 0 → Fits o b m (zs.getD j 0) from fun j h1 h2 => HD.out j (by omega) h2)
      clear HD
      go_wp2_with fail
      go_ret
      exact ⟨tells_yes HN.out, rfl⟩

end Go.Proofs.Qxb6614837a
