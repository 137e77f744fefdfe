import Derived.Test.Qxb6609132aFollow
import Derived.Test.Qxb6609132aBytesA
namespace Go.Proofs.Qxb6609132a
open Go.RowKit Go.Maps

section
variable {B : Nat} {L : Lay} {tick : Int} {ls : List ByteArray} {N : Nat} {f : ByteArray → Option Rec} {bg : List Int} {E : DataW Value} {fg : Int} (w : World)

theorem tick_any (hI : Inv B L tick ls N f bg E fg w) : Calls Try.prog 14 #[.pointer (some ⟨L.sb, 0, none⟩)] w fun e w' => e = .returned (.int .i64 tick) ∧ w' = w := by
  obtain ⟨bv, s1, _⟩ := hI.site
  have c2 : w.cell? ⟨L.sb, 1, none⟩ = some (.int .i64 tick) := cell_of_block s1 rfl
  clear s1 hI
  go_enter Try.func14, Try.ntmps14
  go_wp2
  go_ret
  exact ⟨rfl, rfl⟩

theorem forgotten_any (hI : Inv B L tick ls N f bg E fg w) : Calls Try.prog 15 #[.pointer (some ⟨L.sb, 0, none⟩)] w fun e w' => e = .returned (.int .i64 fg) ∧ w' = w := by
  obtain ⟨bv, s1, _⟩ := hI.site
  have c2 : w.cell? ⟨L.sb, 10, none⟩ = some (.int .i64 fg) := cell_of_block s1 rfl
  clear s1 hI
  go_enter Try.func15, Try.ntmps15
  go_wp2
  go_ret
  exact ⟨rfl, rfl⟩

theorem begun_any (hI : Inv B L tick ls N f bg E fg w) : Calls Try.prog 16 #[.pointer (some ⟨L.sb, 0, none⟩)] w fun e w' => (∃ a c, e = .returned (.slice a bg.length c) ∧ w.ownsRow B 29 1 (.slice a bg.length c) bg.length (bg.map (Value.int .i64))) ∧ w' = w := by
  obtain ⟨bv, s1, s2⟩ := hI.site
  have hv : ∃ a c, bv = .slice a bg.length c := by
    rcases s2.2 with ⟨rfl, e⟩ | ⟨g, cap, cur, rfl, _⟩
    · exact ⟨none, 0, by rw [e]⟩
    · exact ⟨_, _, rfl⟩
  obtain ⟨a, c, rfl⟩ := hv
  have c2 : w.cell? ⟨L.sb, 7, none⟩ = some (.slice a bg.length c) := cell_of_block s1 rfl
  have S2 : Hid _ := s2
  clear s1 s2 hI
  go_enter Try.func16, Try.ntmps16
  go_wp2
  go_ret
  exact ⟨⟨a, c, rfl, S2.out⟩, rfl⟩

theorem ended_any (hI : Inv B L tick ls N f bg E fg w) : Calls Try.prog 17 #[.pointer (some ⟨L.sb, 0, none⟩)] w fun e w' => e = .returned (.map (some L.mE)) ∧ w' = w := by
  obtain ⟨bv, s1, _⟩ := hI.site
  have c2 : w.cell? ⟨L.sb, 6, none⟩ = some (.map (some L.mE)) := cell_of_block s1 rfl
  clear s1 hI
  go_enter Try.func17, Try.ntmps17
  go_wp2
  go_ret
  exact ⟨rfl, rfl⟩
end

/-- 'zzCloneStrings', whatever it is handed: a list of the call's own, nil just where it was. -/
theorem clone_any (a : Option Addr) (ss : List ByteArray) (cap : Nat) (w : World) (hm : ss.length ≤ 1099511627776) (hn : a = none → ss = []) (hs : Strs w a ss) :
    Calls Try.prog 13 #[.slice a ss.length cap] w fun e w' => ∃ a' c', e = .returned (.slice a' ss.length c') ∧ a'.isNone = a.isNone ∧
      w'.ownsRow w.heap.size 9 1 (.slice a' ss.length c') ss.length (ss.map Value.string) ∧ Below w.heap.size w w' := by
  cases a with
  | none =>
    have := hn rfl
    subst this
    refine (clone_nil cap w).mono ?_
    rintro e w' ⟨rfl, rfl⟩
    exact ⟨none, 0, rfl, rfl, World.ownsRow_nil _ _ _ _, Below.refl _ _⟩
  | some x =>
    refine (clone_some x ss cap w hm hs).mono ?_
    rintro e w' ⟨rfl, h1, h2⟩
    exact ⟨_, _, rfl, rfl, h1, h2⟩

theorem blocked_none {B : Nat} {L : Lay} {tick : Int} {ls : List ByteArray} {N : Nat} {bg : List Int} {E : DataW Value} {fg : Int} (w : World)
    (h : Inv B L tick ls N (fun _ => none) bg E fg w) (hm : ls.length ≤ 9223372036854775807) (p : ByteArray) (hp : p.size ≤ maxLen) :
    Calls Try.prog 18 #[.pointer (some ⟨L.sb, 0, none⟩), .string p] w fun e w' => e = .returned (.bool false) ∧ w.grownBy w' none := by
  refine (blocked_any w h hm p hp).mono ?_
  rintro e w' ⟨rfl, hg⟩
  exact ⟨by simp, hg⟩

theorem followed_none {B : Nat} {L : Lay} {tick : Int} {ls : List ByteArray} {N : Nat} {bg : List Int} {E : DataW Value} {fg : Int} (w : World)
    (hI : Inv B L tick ls N (fun _ => none) bg E fg w) (ini p : ByteArray) (d h : Int) (hp : p.size ≤ maxLen) :
    Calls Try.prog 19 #[.pointer (some ⟨L.sb, 0, none⟩), .agg #[.string ini, .int .i64 d], .string p, .int .i64 h] w fun e w' =>
      e = .returned (.slice none 0 0) ∧ w.grownBy w' none := by
  refine (zzfollowed_any w hI ini p d h hp).mono ?_
  rintro e w' ⟨v, rfl, hv, hg⟩
  exact ⟨by rw [nil_followed hv], hg⟩

set_option maxHeartbeats 2000000 in
theorem walk3 (a0 : Option Addr) (ls : List ByteArray) (c0 : Nat) (t : Int) (a2 : Option Addr) (qs : List ByteArray) (c2 : Nat) (ini : ByteArray) (d h : Int) (w : World)
    (hm0 : ls.length ≤ 9223372036854775807) (hn0 : a0 = none → ls = []) (hs0 : Strs w a0 ls) (hm2 : qs.length ≤ 9223372036854775807) (hs2 : Strs w a2 qs) (hq : ∀ q ∈ qs, q.size ≤ maxLen) :
    Calls Try.prog 3 #[.slice a0 ls.length c0, .int .i64 t, .slice a2 qs.length c2, .string ini, .int .i64 d, .int .i64 h] w fun e w' => e = .returned (.bool true) ∧ Below w.heap.size w w' := by
  go_enter Try.func3, Try.ntmps3
  go_wp2_with fail
  refine (bytes9 a0 ls c0 a2 qs c2 ini t d h _ hm0 hs0 hm2 hs2).mono ?_
  rintro e w' ⟨⟨b, rfl⟩, rfl⟩
  cases b
  · go_wp2_with fail
    go_ret
    exact ⟨rfl, Below.refl _ _⟩
  by_cases h1 : (4096 : Int) < ls.length
  · go_wp2_with fail
    go_ret
    exact ⟨rfl, Below.refl _ _⟩
  by_cases h2 : (4096 : Int) < qs.length
  · go_wp2_with fail
    go_ret
    exact ⟨rfl, Below.refl _ _⟩
  go_wp2_with fail
  refine (strBytes_any a0 ls c0 0 _ hm0 hs0).mono ?_
  rintro e w' ⟨⟨u1, rfl⟩, rfl⟩
  go_wp2_with fail
  refine (strBytes_any a2 qs c2 u1 _ hm2 hs2).mono ?_
  rintro e w' ⟨⟨u2, rfl⟩, rfl⟩
  go_wp2_with fail
  refine (text_any ini u2 _).mono ?_
  rintro e w' ⟨⟨u3, rfl⟩, rfl⟩
  by_cases h3 : 1048576 < u3
  · go_wp2_with fail
    go_ret
    exact ⟨rfl, Below.refl _ _⟩
  go_wp2_with fail
  refine (clone_any a0 ls c0 _ (by omega) hn0 hs0).mono ?_
  rintro e w1 ⟨a', c', rfl, _, ho1, hb1⟩
  go_wp2_with fail
  refine (newSite_any w'.heap.size a' c' ls t w1 hb1.size ho1).mono ?_
  rintro e w2 ⟨L, rfl, hI, hg2⟩
  have hb2 : Below w'.heap.size w' w2 := hb1.trans (grown_below hg2 hb1.size)
  clear hg2 ho1 hb1 hs0 hn0 h1 h2 h3
  go_wp2_with fail
  refine (tick_any w2 hI).mono ?_
  rintro e w3 ⟨rfl, rfl⟩
  go_wp2_with fail
  refine (forgotten_any w3 hI).mono ?_
  rintro e w4 ⟨rfl, rfl⟩
  go_wp2_with fail
  refine (begun_any w4 hI).mono ?_
  rintro e w5 ⟨⟨ab, cb, rfl, _⟩, rfl⟩
  go_wp2_with fail
  refine (ended_any w5 hI).mono ?_
  rintro e w6 ⟨rfl, rfl⟩
  have hlen : ∀ ty, (Builtin.len_ #[33] ty #[.map (some L.mE)]).run Try.prog w6 = .ok (.int .i64 0) w6 := fun ty => hI.ended.len Try.underlying33 ty
  go_wp2_with fail
  have hblk : (w6.alloc (Obj.cells #[Value.string ini, Value.int IntKind.i64 d] 36)).heap[w6.heap.size]? = some (.cells #[.string ini, .int .i64 d] 36 (0, 0)) := at_new rfl
  have hI' := hI.kept (World.grownBy_alloc w6 (Obj.cells #[Value.string ini, Value.int IntKind.i64 d] 36) none)
  have hb' := hb2.trans (grown_below (World.grownBy_alloc w6 (Obj.cells #[Value.string ini, Value.int IntKind.i64 d] 36) none) hb2.size)
  generalize w6.heap.size = db at *
  clear hI hb2 hlen
  go_loopw [16] (fun i wr => ∃ (k : Nat), k ≤ qs.length ∧ i = .int .i64 k ∧ wr.heap[db]? = some (.cells #[.string ini, .int .i64 d] 36 (0, 0)) ∧ Inv w'.heap.size L t ls 0 (fun _ => none) [] (.map []) 0 wr ∧ Below w'.heap.size w' wr) (fun i _ => qs.length - (intOf i).toNat)
  case atStart => exact ⟨0, Nat.zero_le _, rfl, hblk, hI', hb'⟩
  case round =>
    obtain ⟨k, hk, rfl, hbk, hIr, hbr⟩ := hrel
    clear hblk hI' hb'
    by_cases hlt : k < qs.length
    · rcases hs2 with rfl | ⟨b, off, rfl, hc⟩
      · simp at hlt
      have hc0 := hc k hlt
      have hcell : wr.cell? ⟨b, off + k, none⟩ = some (.string (qs.getD k ByteArray.empty)) := (hbr.cell (by exact World.block_lt_of_cell? _ _ hc0)).trans hc0
      have hqk := hq _ (mem_of_getD hlt)
      clear hc hc0 hq
      generalize qs.getD k ByteArray.empty = q at *
      go_wp2_with fail
      refine (blocked_none wr hIr hm0 q hqk).mono ?_
      rintro e w7 ⟨rfl, hg7⟩
      have hI7 := hIr.kept hg7
      have hbk7 := block_kept hbk hg7
      have hb7 := hbr.trans (grown_below hg7 hbr.size)
      have cd0 : w7.cell? ⟨db, 0, none⟩ = some (.string ini) := cell_of_block hbk7 rfl
      have cd1 : w7.cell? ⟨db, 1, none⟩ = some (.int .i64 d) := cell_of_block hbk7 rfl
      clear hg7 hIr hbk hbr hcell
      go_wp2_with fail
      refine (followed_none w7 hI7 ini q d h hqk).mono ?_
      rintro e w8 ⟨rfl, hg8⟩
      have hI8 := hI7.kept hg8
      have hbk8 := block_kept hbk7 hg8
      have hb8 := hb7.trans (grown_below hg8 hb7.size)
      have hneq := fun (w : World) => run_neq_slice_nil_any (P := Try.prog) w 22 9 none 0 0 0 0 Try.underlying22
      clear hg8 hI7 hbk7 hb7 cd0 cd1
      go_wp2_with fail
      refine (shared_any w8 hI8 q).mono ?_
      rintro e w9 ⟨rfl, rfl⟩
      go_wp2_with fail
      refine (ahead_any w9 hI8 q).mono ?_
      rintro e w10 ⟨rfl, rfl⟩
      go_wp2_with fail
      go_roundw
      case rel => exact ⟨k + 1, by omega, by go_num, hbk8, hI8, hb8⟩
      case measure => simp [intOf]; omega
    · clear hs2 hq
      go_wp2_with fail
      go_ret
      exact ⟨rfl, hbr⟩

end Go.Proofs.Qxb6609132a
