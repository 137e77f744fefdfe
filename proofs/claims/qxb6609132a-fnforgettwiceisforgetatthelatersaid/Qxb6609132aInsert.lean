import Derived.Test.Qxb6609132aSearch
import Derived.Lib.AppendZerosOnto
import Derived.Lib.Overlaps
import Derived.Laws.CopyOwn
import Derived.Deep.RegionLaw
namespace Go.Proofs.Qxb6609132a
open Go.RowKit

theorem hidden {p : Prop} (h : p) : Hid p := h
theorem Try.info29 : (Try.prog.info? 29).map (fun i => (i.zero, i.size, i.bytes)) = some (some (.int .i64 0), 1, 8) := by kernel_rfl
theorem size29 : (Try.prog.info? 29).map (·.size) = some 1 := by kernel_rfl
theorem sizeOf29 (w : World) : (Go.sizeOf 29).run Try.prog w = .ok 1 w := by kernel_rfl

/-- 'copy' into a row that is known whole: the row behind it, and that nothing else has turned. -/
theorem run_copy_here {P : Program} (w : World) (dT sT ty elem : TypeId) (g o dLen dCap : Nat) (a : Addr) (sLen sCap : Nat) (cur : List Value) (t : TypeId) (cs : List Value)
    (hu : P.underlying dT = some (.slice elem)) (hs : (P.info? elem).map (·.size) = some 1)
    (hg : w.heap[g]? = some (.cells cur.toArray t (0, 0))) (hn : cs.length = Nat.min sLen dLen)
    (hsrc : ∀ j v, cs[j]? = some v → w.cell? (a.add j) = some v) (hfit : o + cs.length ≤ cur.length) (h1 : ∀ v ∈ cs, v.oneCell' = true) :
    ∃ w', (Builtin.copy_ #[dT, sT] ty #[.slice (some ⟨g, o, none⟩) dLen dCap, .slice (some a) sLen sCap]).run P w = .ok (goInt cs.length) w' ∧
      w'.heap[g]? = some (.cells (splice cur o cs).toArray t (0, 0)) ∧ w.grownBy w' (some g) := by
  have h := run_copy_row (P := P) w dT sT ty elem g o dLen dCap a sLen sCap cur.toArray t cs hu hs hg hn hsrc (by simpa using hfit) h1
  refine ⟨_, h, ?_, ⟨rfl, rfl, rfl, by simp [World.setRow], fun k _ hk => setRow_other w g k _ (fun e => hk (by rw [e]))⟩⟩
  rw [setRow_heap w g _ _ t _ hg]
  simp [splice]

section
variable {P : Program} {w : World} {ops : Array Oper} {rest : List Oper} {o : Oper} {a : Act} {Q : Exit → Act → World → Prop}

theorem wpList_copy_here (hgd : o.guard = none) (d s : Operand) (dT sT : TypeId)
    (ho : o.op = .call { callee := .builtin .copy, args := #[d, s], argTypes := #[dT, sT] }) (elem : TypeId) (hu : P.underlying dT = some (.slice elem)) (hsz : (P.info? elem).map (·.size) = some 1)
    (g off dLen dCap : Nat) (ad : Addr) (sLen sCap : Nat) (hd : a.eval d = .slice (some ⟨g, off, none⟩) dLen dCap) (hs : a.eval s = .slice (some ad) sLen sCap)
    (cur : List Value) (t : TypeId) (hg : w.heap[g]? = some (.cells cur.toArray t (0, 0))) (cs : List Value) (hn : cs.length = Nat.min sLen dLen)
    (hsrc : ∀ j v, cs[j]? = some v → w.cell? (ad.add j) = some v) (hfit : off + cs.length ≤ cur.length) (h1 : ∀ v ∈ cs, v.oneCell' = true)
    (h : ∀ w', Hid (w'.heap[g]? = some (.cells (splice cur off cs).toArray t (0, 0))) → w.grownBy w' (some g) → wpList P ops Q rest (a.put o.dst (goInt cs.length)) w') : wpList P ops Q (o :: rest) a w := by
  refine wpList_plain hgd fun K hK => ?_
  obtain ⟨w', hrun, r1, r2⟩ := run_copy_here (P := P) w dT sT o.type elem g off dLen dCap ad sLen sCap cur t cs hu hsz hg hn hsrc hfit h1
  unfold Oper.wp
  simp [execOp, ho, resolve, invoke, builtin, hd, hs, hrun, Result.andThen]
  exact hK _ _ (h w' r1 r2)

theorem step_copy_here {K : Act → World → Prop} {E : Prop} (hgd : o.guard = none) (d s : Operand) (dT sT : TypeId)
    (ho : o.op = .call { callee := .builtin .copy, args := #[d, s], argTypes := #[dT, sT] }) (elem : TypeId) (hu : P.underlying dT = some (.slice elem)) (hsz : (P.info? elem).map (·.size) = some 1)
    (g off dLen dCap : Nat) (ad : Addr) (sLen sCap : Nat) (hd : a.eval d = .slice (some ⟨g, off, none⟩) dLen dCap) (hs : a.eval s = .slice (some ad) sLen sCap)
    (cur : List Value) (t : TypeId) (hg : w.heap[g]? = some (.cells cur.toArray t (0, 0))) (cs : List Value) (hn : cs.length = Nat.min sLen dLen)
    (hsrc : ∀ j v, cs[j]? = some v → w.cell? (ad.add j) = some v) (hfit : off + cs.length ≤ cur.length) (h1 : ∀ v ∈ cs, v.oneCell' = true)
    (h : ∀ w', Hid (w'.heap[g]? = some (.cells (splice cur off cs).toArray t (0, 0))) → w.grownBy w' (some g) → K (a.put o.dst (goInt cs.length)) w') :
    if Region.wanted o (yielded ops a.tmps) = true then Oper.wp P o a w K Q else E := by
  have hw : Region.wanted o (yielded ops a.tmps) = true := by simp [Region.wanted, hgd]
  rw [if_pos hw]
  obtain ⟨w', hrun, r1, r2⟩ := run_copy_here (P := P) w dT sT o.type elem g off dLen dCap ad sLen sCap cur t cs hu hsz hg hn hsrc hfit h1
  unfold Oper.wp
  simp [execOp, ho, resolve, invoke, builtin, hd, hs, hrun, Result.andThen]
  exact h w' r1 r2
end

/-- In place: what the two copies leave. -/
theorem shift_row {α : Type} {cur L : List α} {x : α} {n i : Nat} (hc : n + 1 ≤ cur.length) (ht : cur.take n = L) (hi : i < n) :
    (splice (splice cur (i + 1) (L.drop i)) i [x]).take (n + 1) = L.take i ++ x :: L.drop i := by
  have hL : L.length = n := by rw [← ht]; simp; omega
  have e1 : (splice cur (i + 1) (L.drop i)).take i = L.take i := by
    unfold splice
    rw [List.take_append_of_le_length (by simp; omega), List.take_take, ← ht, List.take_take]
    congr 1; omega
  have e2 : (splice cur (i + 1) (L.drop i)).drop (i + 1) = L.drop i ++ cur.drop (n + 1) := by
    unfold splice
    have : (cur.take (i + 1)).length = i + 1 := by simp; omega
    rw [List.drop_append_of_le_length (by omega), List.drop_of_length_le (by omega), List.nil_append]
    congr 2
    simp [hL]; omega
  have e3 : splice (splice cur (i + 1) (L.drop i)) i [x] = (L.take i ++ x :: L.drop i) ++ cur.drop (n + 1) := by
    rw [show splice (splice cur (i + 1) (L.drop i)) i [x] = (splice cur (i + 1) (L.drop i)).take i ++ ([x] ++ (splice cur (i + 1) (L.drop i)).drop (i + 1)) from rfl, e1, e2]
    simp
  rw [e3, List.take_append_of_le_length (by simp [hL]; omega)]
  exact List.take_of_length_le (by simp [hL]; omega)

/-- A new row: what the two copies leave. -/
theorem grow_row {α : Type} {row L : List α} {x : α} {n i : Nat} (_hc : n + 1 ≤ row.length) (ht : row.take i = L.take i) (hL : L.length = n) (hi : i < n) :
    (splice (splice row i [x]) (i + 1) (L.drop i)).take (n + 1) = L.take i ++ x :: L.drop i := by
  have e1 : splice row i [x] = (L.take i ++ [x]) ++ row.drop (i + 1) := by
    rw [show splice row i [x] = row.take i ++ ([x] ++ row.drop (i + 1)) from rfl, ht]
    simp
  have hl : (L.take i ++ [x]).length = i + 1 := by simp [hL]; omega
  have e2 : (splice row i [x]).take (i + 1) = L.take i ++ [x] := by
    rw [e1, List.take_append_of_le_length (by omega), List.take_of_length_le (by omega)]
  rw [show splice (splice row i [x]) (i + 1) (L.drop i) = (splice row i [x]).take (i + 1) ++ (L.drop i ++ (splice row i [x]).drop (i + 1 + (L.drop i).length)) from rfl, e2,
    ← List.append_assoc, List.take_append_of_le_length (by simp [hL]; omega), List.take_of_length_le (by simp [hL]; omega)]
  simp

theorem ints_one (zs : List Int) : ∀ u ∈ zs.map (Value.int .i64), u.oneCell' = true := by
  intro u hu
  obtain ⟨s, _, rfl⟩ := List.mem_map.1 hu
  rfl

def insAt (zs : List Int) (i : Nat) (x : Int) : List Int := zs.take i ++ x :: zs.drop i

theorem length_insAt {zs : List Int} {i : Nat} {x : Int} (h : i ≤ zs.length) : (insAt zs i x).length = zs.length + 1 := by simp [insAt]; omega

theorem map_insAt (zs : List Int) (i : Nat) (x : Int) : (insAt zs i x).map (Value.int .i64) = (zs.map (Value.int .i64)).take i ++ Value.int .i64 x :: (zs.map (Value.int .i64)).drop i := by
  simp [insAt]

theorem news_one {w : World} {vb : Nat} {x : Int} (h : w.cell? ⟨vb, 0, none⟩ = some (.int .i64 x)) : ∀ j u, [Value.int .i64 x][j]? = some u → w.cell? ((⟨vb, 0, none⟩ : Addr).add j) = some u := by
  intro j u hj
  cases j with
  | zero => simp at hj; subst hj; rw [Addr.add_lit]; exact h
  | succ j => simp at hj

set_option maxRecDepth 20000 in
set_option maxHeartbeats 1000000 in
theorem insert_end (B : Nat) (a : Option Addr) (c : Nat) (zs : List Int) (x : Int) (vb : Nat) (w : World) (hB : B ≤ w.heap.size) (hm : zs.length ≤ 1048576)
    (hown : w.ownsRow B 29 1 (.slice a zs.length c) zs.length (zs.map (Value.int .i64))) (hv : w.cell? ⟨vb, 0, none⟩ = some (.int .i64 x)) :
    Calls Try.prog 58 #[.slice a zs.length c, .int .i64 zs.length, .slice (some ⟨vb, 0, none⟩) 1 1] w fun e w' => ∃ v', e = .returned v' ∧
      w'.ownsRow B 29 1 v' (zs.length + 1) ((insAt zs zs.length x).map (Value.int .i64)) ∧ w.grownBy w' (Value.slice a zs.length c).ownBlock := by
  obtain ⟨i0, hi, hz0, hz1, hz2⟩ := info_parts Try.info29
  have HO := hidden hown
  have HN := hidden (news_one hv)
  have HE : Hid (zs.map (Value.int .i64) ++ [Value.int .i64 x] = (insAt zs zs.length x).map (Value.int .i64)) := by
    show _ = _
    simp [insAt]
  rcases hown.2 with ⟨h1, h2⟩ | ⟨g, cap, cur, h1, _, _, hnc, hcm, _⟩
  · injection h1 with e1 e2 e3
    have hzs : zs = [] := List.length_eq_zero_iff.1 h2
    subst e1 e3 hzs
    simp only [List.length_nil, List.map_nil] at HO HE
    clear hown hv
    go_enter Try.func58, Try.ntmps58
    go_wp2_with (at_builtin; refine wpList_append_own _ rfl _ _ 31 rfl B 29 i0 (.int .i64 0) 1 8 Try.underlying31 hi hz0 hz1 hz2 rfl (by decide) _ 0 _ rfl HO.out ⟨vb, 0, none⟩ 1 1 [.int .i64 x] rfl rfl HN.out (ints_one [x]) (by unfold maxLen; omega) (by omega) hB ?_; intro v' w1 hown1 hgr1 _)
    go_ret
    exact ⟨_, rfl, by rw [← HE.out]; exact hown1, hgr1⟩
  · injection h1 with e1 e2 e3
    subst e1 e3
    unfold maxLen at hcm
    clear hown hv
    go_enter Try.func58, Try.ntmps58
    go_wp2_with (at_builtin; refine wpList_append_own _ rfl _ _ 31 rfl B 29 i0 (.int .i64 0) 1 8 Try.underlying31 hi hz0 hz1 hz2 rfl (by decide) _ zs.length _ rfl HO.out ⟨vb, 0, none⟩ 1 1 [.int .i64 x] rfl rfl HN.out (ints_one [x]) (by unfold maxLen; omega) (by omega) hB ?_; intro v' w1 hown1 hgr1 _)
    all_goals
      go_ret
      exact ⟨_, rfl, by rw [← HE.out]; exact hown1, hgr1⟩

end Go.Proofs.Qxb6609132a
