import Derived.Test.Qxb6614837aRows
import Derived.WalkKit
import Derived.WalkSpells
import Derived.WalkLawsBesides
import Derived.BigQuiet
import Derived.Deep.QuietTactic
import Derived.Lib.Mul64
import Derived.Laws.Bits64b
import Derived.Below
import Derived.Deep.RegionHeld3
import Derived.Laws.BitsAllLaws
import Derived.Shelf.Bits.Mul64
namespace Go.Proofs.Qxb6614837a
open Go.RowKit

theorem hidden {p : Prop} (h : p) : Hid p := h

/-- The count of bits that a shift takes at the most. -/
def sb (b : Int) : Nat := min b.toNat 32
def mask (b : Int) : Int := (2 ^ sb b - 1) % 4294967296
def keyP (o b s : Int) : Int := wrap32 (o + wrap32 (bits .and .u32 s (mask b)))
def hashP (x m : Int) : Int := IntKind.u64.wrap (IntKind.u64.wrap x * m)

theorem grown_drewN {w w1 : World} (h : w.grownBy w1 none) (n : Nat) : w.grownBy (w1.drewN n) none := h.trans ⟨rfl, rfl, rfl, Nat.le_refl _, fun _ _ _ => rfl⟩

def tagP (h b : Int) : Int := h % 4294967296 * 2 ^ sb b % 4294967296 / 2 ^ sb b
def homeP (h : Int) (n : Nat) : Nat := h.toNat * n / 18446744073709551616

set_option maxHeartbeats 1000000 in
theorem key_any (o b s : Int) (hb : 0 ≤ b) (w : World) :
    Calls Try.prog 26 #[.agg #[.int .i32 o, .int .i64 b], .int .u32 s] w fun e w' => e = .returned (.int .i32 (keyP o b s)) ∧ w.grownBy w' none := by
  go_enter Try.func26, Try.ntmps26
  go_wp2_with fail
  go_quiet (fail)
  go_wp2_with fail
  go_ret
  exact ⟨rfl, grown_drewN (World.grownBy_alloc w _ none) _⟩

set_option maxHeartbeats 1000000 in
theorem mask_any (b : Int) (hb : 0 ≤ b) (hb' : b ≤ 9223372036854775807) (w : World) :
    Calls Try.prog 22 #[.int .i64 b] w fun e w' => e = .returned (.int .u32 (mask b)) ∧ w' = w := by
  by_cases h : b < 32
  · have e : sb b = b.toNat := by unfold sb; omega
    have E := hidden e
    clear e
    go_enter Try.func22, Try.ntmps22
    go_wp2_with fail
    go_ret
    refine ⟨?_, rfl⟩
    show _ = Ending.returned (.int .u32 ((2 ^ sb b - 1) % 4294967296))
    rw [E.out]
    have e : ((2 : Int) ^ b.toNat - 1) % 4294967296 = (2 ^ b.toNat % 4294967296 - 1) % 4294967296 := by generalize (2 : Int) ^ b.toNat = y; omega
    rw [e]
    rfl
  · have e : sb b = 32 := by unfold sb; omega
    have E := hidden e
    clear e
    have h' : 32 ≤ b := by omega
    go_enter Try.func22, Try.ntmps22
    go_wp2_with fail
    go_ret
    refine ⟨?_, rfl⟩
    show _ = Ending.returned (.int .u32 ((2 ^ sb b - 1) % 4294967296))
    rw [E.out]
    rfl

set_option maxHeartbeats 1000000 in
theorem hash_any (x m : Int) (w : World) : Calls Try.prog 14 #[.int .i32 x, .int .u64 m] w fun e w' => e = .returned (.int .u64 (hashP x m)) ∧ w' = w := by
  go_enter Try.func14, Try.ntmps14
  go_wp2_with fail
  go_ret
  exact ⟨rfl, rfl⟩

set_option maxHeartbeats 1000000 in
theorem hash_fn (x m : Int) (mb : Nat) (w : World) (hc : w.cell? ⟨mb, 0, none⟩ = some (.int .u64 m)) : Calls Try.prog 18 #[.int .i32 x, .pointer (some ⟨mb, 0, none⟩)] w fun e w' => e = .returned (.int .u64 (hashP x m)) ∧ w' = w := by
  go_enter Try.func18, Try.ntmps18
  go_wp2_with fail
  go_ret
  exact ⟨rfl, rfl⟩

set_option maxHeartbeats 1000000 in
theorem is_fn (x y : Int) (mb : Nat) (w : World) (hc : w.cell? ⟨mb, 0, none⟩ = some (.int .i32 y)) : Calls Try.prog 24 #[.int .i32 x, .pointer (some ⟨mb, 0, none⟩)] w fun e w' => e = .returned (.bool (x == y)) ∧ w' = w := by
  go_enter Try.func24, Try.ntmps24
  go_wp2_with fail
  go_ret
  exact ⟨rfl, rfl⟩

set_option maxHeartbeats 1000000 in
theorem none_fn (x : Int) (w : World) : Calls Try.prog 25 #[.int .i32 x] w fun e w' => e = .returned (.bool false) ∧ w' = w := by
  go_enter Try.func25, Try.ntmps25
  go_wp2_with fail
  go_ret
  exact ⟨rfl, rfl⟩

set_option maxHeartbeats 1000000 in
theorem span_any (o b s : Int) (hb : 0 ≤ b) (hb' : b ≤ 9223372036854775807) (w : World) :
    Calls Try.prog 12 #[.int .u32 s, .int .i32 o, .int .i64 b] w fun e w' => e = .returned (.int .i32 (keyP o b s)) ∧ w' = w := by
  go_enter Try.func12, Try.ntmps12
  go_wp2_with (go_at_call 22; refine (mask_any b hb hb' _).mono ?_; rintro e w' ⟨rfl, rfl⟩)
  go_ret
  exact ⟨rfl, rfl⟩

set_option maxHeartbeats 1000000 in
theorem tagSlot_any (b s : Int) (hb : 0 ≤ b) (hb' : b ≤ 9223372036854775807) (h0 : 0 ≤ s) (hs : s < 4294967296) (w : World) :
    Calls Try.prog 20 #[.int .u32 s, .int .i64 b] w fun e w' => e = .returned (.int .u32 (s / 2 ^ sb b)) ∧ w' = w := by
  by_cases h : b < 32
  · have e : sb b = b.toNat := by unfold sb; omega
    have E := hidden e
    clear e
    go_enter Try.func20, Try.ntmps20
    go_wp2_with fail
    go_ret
    refine ⟨?_, rfl⟩
    rw [E.out]
    rfl
  · have e : s / 2 ^ sb b = 0 := by
      have e : sb b = 32 := by unfold sb; omega
      rw [e]
      omega
    have E := hidden e
    clear e
    have h' : 32 ≤ b := by omega
    go_enter Try.func20, Try.ntmps20
    go_wp2_with fail
    go_ret
    refine ⟨?_, rfl⟩
    rw [E.out]
    rfl

set_option maxHeartbeats 1000000 in
theorem tagHash_any (h b : Int) (hb : 0 ≤ b) (hb' : b ≤ 9223372036854775807) (w : World) :
    Calls Try.prog 21 #[.int .u64 h, .int .i64 b] w fun e w' => e = .returned (.int .u32 (tagP h b)) ∧ w' = w := by
  by_cases h3 : b < 32
  · have e : sb b = b.toNat := by unfold sb; omega
    have E := hidden e
    clear e
    go_enter Try.func21, Try.ntmps21
    go_wp2_with fail
    go_ret
    refine ⟨?_, rfl⟩
    unfold tagP
    rw [E.out]
    rfl
  · have e : tagP h b = 0 := by
      have e : sb b = 32 := by unfold sb; omega
      unfold tagP
      rw [e]
      omega
    have E := hidden e
    clear e
    have h' : 32 ≤ b := by omega
    go_enter Try.func21, Try.ntmps21
    go_wp2_with fail
    go_ret
    refine ⟨?_, rfl⟩
    rw [E.out]
    rfl

theorem or_zero (x : Int) : bits .or .u32 (x % 4294967296) 0 = x % 4294967296 := by
  rw [u32_or _ _ (by omega) (by omega) (by omega) (by omega)]
  simp
  omega

set_option maxHeartbeats 1000000 in
theorem slot_any (o b h : Int) (hb : 0 ≤ b) (w : World) :
    Calls Try.prog 29 #[.agg #[.int .i32 o, .int .i64 b], .int .i32 o, .int .u64 h] w fun e w' => e = .returned (.int .u32 (h % 4294967296 * 2 ^ sb b % 4294967296)) ∧ w.grownBy w' none := by
  go_enter Try.func29, Try.ntmps29
  go_wp2_with fail
  go_quiet (fail)
  go_wp2_with fail
  rw [or_zero]
  go_ret
  exact ⟨rfl, grown_drewN (World.grownBy_alloc w _ none) _⟩

theorem grown_trans {a b c : World} (h : a.grownBy b none) (k : b.grownBy c none) : a.grownBy c none := h.trans k

set_option maxRecDepth 20000 in
set_option maxHeartbeats 1000000 in
theorem tag_any (o b h : Int) (hb : 0 ≤ b) (w : World) :
    Calls Try.prog 28 #[.agg #[.int .i32 o, .int .i64 b], .int .u64 h] w fun e w' => e = .returned (.int .u32 (tagP h b)) ∧ w.grownBy w' none := by
  have hg1 : ∀ o, w.grownBy (w.alloc o) none := fun o => World.grownBy_alloc w o none
  have HG1 := hidden hg1
  clear hg1
  go_enter Try.func28, Try.ntmps28
  go_wp2_with fail
  have c0 : (w.alloc (Obj.cells #[Value.int IntKind.i32 o, Value.int IntKind.i64 b] 35)).cell? ⟨w.heap.size, 0, none⟩ = some (.int .i32 o) := by go_keep
  have c1 : (w.alloc (Obj.cells #[Value.int IntKind.i32 o, Value.int IntKind.i64 b] 35)).cell? ⟨w.heap.size, 1, none⟩ = some (.int .i64 b) := by go_keep
  have HG := hidden (HG1.out (Obj.cells #[Value.int IntKind.i32 o, Value.int IntKind.i64 b] 35))
  clear HG1
  generalize w.alloc (Obj.cells #[Value.int IntKind.i32 o, Value.int IntKind.i64 b] 35) = w1 at c0 c1 HG ⊢
  go_region_held3 (fun w' => w'.cell? ⟨w.heap.size, 0, none⟩ = some (.int .i32 o) ∧ w'.cell? ⟨w.heap.size, 1, none⟩ = some (.int .i64 b)) (go_keep)
    ((go_at_call 29; refine (slot_any o b h hb _).mono ?_; rintro e w2 ⟨rfl, hg⟩; have d0 := hg.cell c0 (by simp); have d1 := hg.cell c1 (by simp)))
  all_goals
    go_wp2_with fail
    go_ret
    exact ⟨rfl, grown_trans HG.out (grown_trans (grown_drewN (World.grownBy.refl _ _) _) hg)⟩

set_option maxHeartbeats 1000000 in
theorem mul64_any (x y : Nat) (hx : x < 18446744073709551616) (hy : y < 18446744073709551616) (w : World) :
    Calls Try.prog 27 #[.int .u64 x, .int .u64 y] w fun e w' => e = .returned (.tuple #[.int .u64 ((x * y / 18446744073709551616 : Nat) : Int), .int .u64 ((x * y % 18446744073709551616 : Nat) : Int)]) ∧ w' = w := by
  obtain ⟨bd, bt, bw, hhi⟩ := Lib.mul64_hi x y hx hy
  have ba := Lib.half_mul_le (a := x / 4294967296) (b := y / 4294967296) (by omega) (by omega)
  have bb := Lib.half_mul_le (a := x / 4294967296) (b := y % 4294967296) (by omega) (by omega)
  have bc := Lib.half_mul_le (a := x % 4294967296) (b := y / 4294967296) (by omega) (by omega)
  have ba' : x / 4294967296 * (y / 4294967296) < 18446744073709551616 := by omega
  have bb' : x / 4294967296 * (y % 4294967296) < 18446744073709551616 := by omega
  have bc' : x % 4294967296 * (y / 4294967296) < 18446744073709551616 := by omega
  have bh1 : x / 4294967296 * (y / 4294967296) + (x / 4294967296 * (y % 4294967296) + x % 4294967296 * (y % 4294967296) / 4294967296) / 4294967296 < 18446744073709551616 := by omega
  have bh : x / 4294967296 * (y / 4294967296) + (x / 4294967296 * (y % 4294967296) + x % 4294967296 * (y % 4294967296) / 4294967296) / 4294967296 + ((x / 4294967296 * (y % 4294967296) + x % 4294967296 * (y % 4294967296) / 4294967296) % 4294967296 + x % 4294967296 * (y / 4294967296)) / 4294967296 < 18446744073709551616 := by omega
  go_enter Try.func27, Try.ntmps27
  go_wp2
  simp only [Mul64.maskN x hx, Mul64.maskN y hy, Mul64.divN, Mul64.mulN, Mul64.addN, Mul64.wrapN _ bd, Mul64.wrapN _ bb', Mul64.wrapN _ bt, Mul64.maskN _ bt, Mul64.wrapN _ bc', Mul64.wrapN _ bw, Mul64.wrapN _ ba', Mul64.wrapN _ bh1, Mul64.wrapN _ bh, Mul64.wrapM (x * y)]
  rw [hhi]
  go_ret2
  exact ⟨rfl, rfl⟩

set_option maxHeartbeats 1000000 in
theorem hi64_any (x y : Nat) (hx : x < 18446744073709551616) (hy : y < 18446744073709551616) (w : World) :
    Calls Try.prog 19 #[.int .u64 x, .int .u64 y] w fun e w' => e = .returned (.int .u64 ((x * y / 18446744073709551616 : Nat) : Int)) ∧ w' = w := by
  obtain ⟨bd, bt, bw, hhi⟩ := Lib.mul64_hi x y hx hy
  have ba := Lib.half_mul_le (a := x / 4294967296) (b := y / 4294967296) (by omega) (by omega)
  have bb := Lib.half_mul_le (a := x / 4294967296) (b := y % 4294967296) (by omega) (by omega)
  have bc := Lib.half_mul_le (a := x % 4294967296) (b := y / 4294967296) (by omega) (by omega)
  have ba' : x / 4294967296 * (y / 4294967296) < 18446744073709551616 := by omega
  have bb' : x / 4294967296 * (y % 4294967296) < 18446744073709551616 := by omega
  have bc' : x % 4294967296 * (y / 4294967296) < 18446744073709551616 := by omega
  have bh1 : x / 4294967296 * (y / 4294967296) + (x / 4294967296 * (y % 4294967296) + x % 4294967296 * (y % 4294967296) / 4294967296) / 4294967296 < 18446744073709551616 := by omega
  have bh : x / 4294967296 * (y / 4294967296) + (x / 4294967296 * (y % 4294967296) + x % 4294967296 * (y % 4294967296) / 4294967296) / 4294967296 + ((x / 4294967296 * (y % 4294967296) + x % 4294967296 * (y % 4294967296) / 4294967296) % 4294967296 + x % 4294967296 * (y / 4294967296)) / 4294967296 < 18446744073709551616 := by omega
  go_enter Try.func19, Try.ntmps19
  go_wp2
  simp only [Mul64.maskN x hx, Mul64.maskN y hy, Mul64.divN, Mul64.mulN, Mul64.addN, Mul64.wrapN _ bd, Mul64.wrapN _ bb', Mul64.wrapN _ bt, Mul64.maskN _ bt, Mul64.wrapN _ bc', Mul64.wrapN _ bw, Mul64.wrapN _ ba', Mul64.wrapN _ bh1, Mul64.wrapN _ bh]
  rw [hhi]
  go_ret
  exact ⟨rfl, rfl⟩

set_option maxHeartbeats 1000000 in
theorem home_any (o b s m : Int) (n : Nat) (hb : 0 ≤ b) (hb' : b ≤ 9223372036854775807) (hn : n ≤ 1048576) (w : World) :
    Calls Try.prog 9 #[.int .u32 s, .int .i32 o, .int .i64 b, .int .u64 m, .int .i64 n] w fun e w' => e = .returned (.int .i64 (homeP (hashP (keyP o b s) m) n)) ∧ w' = w := by
  obtain ⟨H, hH, hlt⟩ : ∃ H : Nat, hashP (keyP o b s) m = H ∧ H < 18446744073709551616 := by
    unfold hashP
    rw [IntKind.wrap_u64]
    exact ⟨(IntKind.u64.wrap (keyP o b s) * m % 18446744073709551616).toNat, by omega, by omega⟩
  have e : homeP (hashP (keyP o b s) m) n = H * n / 18446744073709551616 := by rw [hH]; simp [homeP]
  have E := hidden e
  have HH := hidden hH
  have hle : H * n / 18446744073709551616 ≤ 1048576 := by
    have : H * n ≤ 18446744073709551616 * 1048576 := Nat.mul_le_mul (by omega) hn
    omega
  clear e hH
  go_enter Try.func9, Try.ntmps9
  go_wp2_with fail
  refine (span_any o b s hb hb' _).mono ?_
  rintro e w' ⟨rfl, rfl⟩
  go_wp2_with fail
  refine (hash_any _ m _).mono ?_
  rintro e w' ⟨rfl, rfl⟩
  rw [HH.out]
  go_wp2_with fail
  refine (hi64_any H n hlt (by omega) _).mono ?_
  rintro e w' ⟨rfl, rfl⟩
  clear HH
  generalize H * n / 18446744073709551616 = r at hle E ⊢
  go_wp2_with fail
  go_ret
  exact ⟨by rw [E.out]; rfl, rfl⟩

end Go.Proofs.Qxb6614837a
