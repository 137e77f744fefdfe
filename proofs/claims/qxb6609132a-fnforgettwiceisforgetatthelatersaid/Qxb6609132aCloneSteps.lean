import Derived.Test.Qxb6609132aWait
import Derived.Test.Qxb6609132aSteps
import Derived.Test.Qxb6609132aEmptyWalk
namespace Go.Proofs.Qxb6609132a
open Go.RowKit Go.Maps

/-- A step without the places of its list. -/
structure StepC where
  p : ByteArray
  done : Bool
  model : Int
  on : List ByteArray
  at' : Int

def StepD.c (s : StepD) : StepC := ⟨s.p, s.done, s.model, s.on, s.at'⟩

def stepCells (s : StepD) : List Value := [.string s.p, .bool s.done, .int .i64 s.model, .slice s.oa s.on.length s.oc, .int .i64 s.at']
def flatSteps (st : List StepD) : List Value := st.flatMap stepCells
theorem length_flat (st : List StepD) : (flatSteps st).length = st.length * 5 := by
  induction st with
  | nil => rfl
  | cons s r ih => simp [flatSteps, stepCells] at ih ⊢; omega

theorem getElem_flat (st : List StepD) (i : Nat) (s : StepD) (h : st[i]? = some s) (j : Nat) (hj : j < 5) : (flatSteps st)[i * 5 + j]? = (stepCells s)[j]? := by
  induction st generalizing i with
  | nil => simp at h
  | cons s0 r ih =>
    have e : flatSteps (s0 :: r) = stepCells s0 ++ flatSteps r := rfl
    rw [e]
    cases i with
    | zero =>
      simp at h
      subst h
      rw [List.getElem?_append_left (by simp [stepCells]; omega)]
      simp
    | succ i =>
      simp at h
      rw [List.getElem?_append_right (by simp [stepCells]; omega)]
      have := ih i h
      rw [← this]
      congr 1
      simp [stepCells]
      omega

/-- Steps in memory of the call's own. -/
structure StepsOwn (B : Nat) (w : World) (g : Nat) (st : List StepD) : Prop where
  row : w.heap[g]? = some (.cells (flatSteps st).toArray 47 (0, 0))
  on : ∀ s ∈ st, w.ownsRow B 9 1 (.slice s.oa s.on.length s.oc) s.on.length (s.on.map Value.string)
  nil : ∀ s ∈ st, s.oa = none → s.on = []

/-- The row while the steps are being laid. -/
def zeroStep : List Value := [.string ByteArray.empty, .bool false, .int .i64 0, .slice none 0 0, .int .i64 0]
def partRow (st : List StepD) (m : Nat) : List Value := flatSteps st ++ (List.replicate m zeroStep).flatten

theorem length_zeros (m : Nat) : ((List.replicate m zeroStep).flatten).length = m * 5 := by
  induction m with
  | zero => rfl
  | succ m ih => rw [List.replicate_succ, List.flatten_cons, List.length_append, ih]; simp [zeroStep]; omega

theorem partRow_step (st : List StepD) (m : Nat) (s : StepD) :
    (((((partRow st (m + 1)).set (st.length * 5) (.string s.p)).set (st.length * 5 + 1) (.bool s.done)).set (st.length * 5 + 2) (.int .i64 s.model)).set (st.length * 5 + 3) (.slice s.oa s.on.length s.oc)).set (st.length * 5 + 4) (.int .i64 s.at') = partRow (st ++ [s]) m := by
  have hl := length_flat st
  unfold partRow
  rw [List.replicate_succ, List.flatten_cons]
  have e : ∀ j v (l : List Value), (flatSteps st ++ l).set (st.length * 5 + j) v = flatSteps st ++ l.set j v := fun j v l => by
    rw [List.set_append_right _ _ (by omega)]
    congr 2
    omega
  have e0 := e 0
  rw [Nat.add_zero] at e0
  rw [e0, e 1, e 2, e 3, e 4]
  simp [zeroStep, flatSteps, stepCells]

theorem Try.info47 : (Try.prog.info? 47).map (fun i => (i.zero, i.size, i.bytes)) = some (some (.agg #[.string ByteArray.empty, .bool false, .int .i64 0, .slice none 0 0, .int .i64 0]), 5, 64) := by kernel_rfl

theorem made_zeros (n : Nat) : (madeCells #[.string ByteArray.empty, .bool false, .int .i64 0, .slice none 0 0, .int .i64 0] (n * 5)).toList = (List.replicate n zeroStep).flatten := by
  have h : ∀ m, (List.range (m * 5)).map (fun i => (#[Value.string ByteArray.empty, .bool false, .int .i64 0, .slice none 0 0, .int .i64 0] : Array Value)[i % 5]!) = (List.replicate m zeroStep).flatten := by
    intro m
    induction m with
    | zero => rfl
    | succ m ih =>
      rw [show (m + 1) * 5 = 5 + m * 5 by omega, List.range_add, List.map_append, List.map_map, List.replicate_succ, List.flatten_cons, ← ih]
      congr 1
      apply List.map_congr_left
      intro i _
      simp only [Function.comp]
      rw [show (5 + i) % 5 = i % 5 by omega]
  rw [← h n]
  simp [madeCells, Array.toList_map, Array.toList_range]

set_option maxHeartbeats 400000 in
theorem cloneSteps_nil (cap : Nat) (w : World) : Calls Try.prog 40 #[.slice none 0 cap] w fun e w' => e = .returned (.slice none 0 0) ∧ w' = w := by
  have hn := fun (w : World) => Lib.run_eql_slice_nil (P := Try.prog) w 40 47 none 0 cap 0 0 Try.underlying40
  go_enter Try.func40, Try.ntmps40
  go_wp2
  go_ret
  exact ⟨rfl, rfl⟩

theorem five_far {w : World} {g b : Nat} (h : b ≠ g) (o0 o1 o2 o3 o4 o : Nat) (v0 v1 v2 v3 v4 : Value) :
    (((((w.setCell ⟨g, o0, none⟩ v0).setCell ⟨g, o1, none⟩ v1).setCell ⟨g, o2, none⟩ v2).setCell ⟨g, o3, none⟩ v3).setCell ⟨g, o4, none⟩ v4).cell? ⟨b, o, none⟩ = w.cell? ⟨b, o, none⟩ := by
  have e : ∀ (w : World) (o' : Nat) (v : Value), (w.setCell ⟨g, o', none⟩ v).cell? ⟨b, o, none⟩ = w.cell? ⟨b, o, none⟩ := fun w o' v => World.cell?_of_block (Below.heap_setCell _ _ _ _ h)
  rw [e, e, e, e, e]

theorem five_block {w : World} {g : Nat} {row : List Value} {e : TypeId} (h : w.heap[g]? = some (.cells row.toArray e (0, 0))) (o0 o1 o2 o3 o4 : Nat) (v0 v1 v2 v3 v4 : Value) :
    (((((w.setCell ⟨g, o0, none⟩ v0).setCell ⟨g, o1, none⟩ v1).setCell ⟨g, o2, none⟩ v2).setCell ⟨g, o3, none⟩ v3).setCell ⟨g, o4, none⟩ v4).heap[g]? =
      some (.cells (((((row.set o0 v0).set o1 v1).set o2 v2).set o3 v3).set o4 v4).toArray e (0, 0)) := by
  have one : ∀ (w : World) (row : List Value) (o : Nat) (v : Value), w.heap[g]? = some (.cells row.toArray e (0, 0)) → (w.setCell ⟨g, o, none⟩ v).heap[g]? = some (.cells (row.set o v).toArray e (0, 0)) := fun w row o v h => by
    rw [heap_setCell_same w g o _ e v h]
    simp
  exact one _ _ _ _ (one _ _ _ _ (one _ _ _ _ (one _ _ _ _ (one _ _ _ _ h))))

theorem five_grown (w : World) (g : Nat) (o0 o1 o2 o3 o4 : Nat) (v0 v1 v2 v3 v4 : Value) :
    w.grownBy (((((w.setCell ⟨g, o0, none⟩ v0).setCell ⟨g, o1, none⟩ v1).setCell ⟨g, o2, none⟩ v2).setCell ⟨g, o3, none⟩ v3).setCell ⟨g, o4, none⟩ v4) (some g) := by
  have one : ∀ (w : World) (o : Nat) (v : Value), w.grownBy (w.setCell ⟨g, o, none⟩ v) (some g) := fun w o v => ⟨rfl, rfl, rfl, by simp [World.setCell], fun i _ hi => Below.heap_setCell _ _ _ _ (fun e => hi (by rw [e]))⟩
  exact grown_both (grown_both (grown_both (grown_both (one _ _ _) (one _ _ _)) (one _ _ _)) (one _ _ _)) (one _ _ _)

theorem part_cell {w : World} {g j : Nat} {row : List Value} {e : TypeId} (h : w.heap[g]? = some (.cells row.toArray e (0, 0))) (hj : j < row.length) : ∃ u, w.cell? ⟨g, j, none⟩ = some u := by
  refine ⟨row[j], ?_⟩
  simp [World.cell?, h, hj]

set_option maxRecDepth 20000 in
set_option maxHeartbeats 2000000 in
theorem cloneSteps_some (x : Addr) (st : List StepD) (cap : Nat) (w : World) (hm : st.length ≤ 4096) (hs : StepsAt w (some x) st) (hon : ∀ (i : Nat) (s : StepD), st[i]? = some s → s.on.length ≤ 1048576) :
    Calls Try.prog 40 #[.slice (some x) st.length cap] w fun e w' => e = .returned (.slice (some ⟨w.heap.size, 0, none⟩) st.length st.length) ∧
      (∃ st', st'.map StepD.c = st.map StepD.c ∧ StepsOwn w.heap.size w' w.heap.size st') ∧ w.grownBy w' none := by
  have hn := fun (w : World) => Lib.run_eql_slice_nil (P := Try.prog) w 40 47 (some x) st.length cap 0 0 Try.underlying40
  obtain ⟨i0, hi, hz0, hz1, hz2⟩ := info_parts Try.info47
  go_enter Try.func40, Try.ntmps40
  go_wp2_with (at_make; refine wpList_make_full _ rfl _ _ 40 rfl w.heap.size 47 i0 (.agg #[.string ByteArray.empty, .bool false, .int .i64 0, .slice none 0 0, .int .i64 0]) 5 Try.underlying40 hi hz0 hz1 .i64 .i64 _ _ st.length rfl rfl rfl rfl (by rw [hz2]; omega) (by unfold maxLen; omega) (Nat.le_refl _) ?_; intro w1 hown1 hgr1)
  go_loopw [4] (fun i wr => ∃ (k : Nat) (st' : List StepD), k ≤ st.length ∧ i = .int .i64 k ∧ Hid (st'.map StepD.c = (st.take k).map StepD.c ∧ wr.heap[w.heap.size]? = some (.cells (partRow st' (st.length - k)).toArray 47 (0, 0)) ∧
      (∀ s ∈ st', wr.ownsRow w.heap.size 9 1 (.slice s.oa s.on.length s.oc) s.on.length (s.on.map Value.string)) ∧ (∀ s ∈ st', s.oa = none → s.on = [])) ∧ w.grownBy wr none) (fun i _ => st.length - (intOf i).toNat)
  case atStart =>
    refine ⟨0, [], Nat.zero_le _, rfl, ⟨rfl, ?_, by simp, by simp⟩, hgr1⟩
    rcases hown1.2 with ⟨h1, _⟩ | ⟨g, cap', cur, h1, _, hh, _, _, hcs, htk⟩
    · simp at h1
    · injection h1 with e1 e2 e3
      injection e1 with e1
      injection e1 with e1 _ _
      subst e1 e3
      rw [hh, Nat.sub_zero]
      rw [show (Value.agg #[.string ByteArray.empty, .bool false, .int .i64 0, .slice none 0 0, .int .i64 0]).cells = #[.string ByteArray.empty, .bool false, .int .i64 0, .slice none 0 0, .int .i64 0] from rfl, made_zeros] at htk
      have e : cur = (partRow [] st.length).toArray := by
        apply Array.ext'
        rw [List.take_of_length_le (by simp [hcs])] at htk
        rw [htk]
        simp [partRow, flatSteps]
      rw [e]
  case round =>
    obtain ⟨k, st', hk, rfl, HR, hgw⟩ := hrel
    clear hown1 hgr1
    by_cases hlt : k < st.length
    · rcases hs with rfl | ⟨b, off, h, hc⟩
      · simp at hlt
      cases h
      obtain ⟨s, hsk⟩ : ∃ s, st[k]? = some s := ⟨_, List.getElem?_eq_getElem hlt⟩
      obtain ⟨c0, c1, c2, c3, c4, hss, hnn, hmm⟩ := hc k s hsk
      have hok := hon k s hsk
      have HK := hidden hsk
      have d0 := hgw.cell c0 (by simp)
      have d1 := hgw.cell c1 (by simp)
      have d2 := hgw.cell c2 (by simp)
      have d3 := hgw.cell c3 (by simp)
      have d4 := hgw.cell c4 (by simp)
      have hbl : b < w.heap.size := World.block_lt_of_cell? w _ c0
      have hbne : b ≠ w.heap.size := by omega
      have hlti : (k : Int) < (st.length : Int) := by omega
      have hki : (0 : Int) ≤ (k : Int) := by omega
      have hss' := hss.kept hgw
      have hrow := HR.out.2.1
      have hGlt := lt_of_block hrow
      have hlen5 : ∀ j, j < 5 → k * 5 + j < (partRow st' (st.length - k)).length := fun j hj => by
        have h1 := congrArg List.length HR.out.1
        simp at h1
        unfold partRow
        rw [List.length_append, length_flat, length_zeros]
        omega
      have HL5 := hidden hlen5
      have HRW := hidden hrow
      have HSS := hidden hss'
      have HNN := hidden hnn
      clear hc hsk c0 c1 c2 c3 c4 hon hss hss' hrow hlen5 hnn
      go_wp2_with fail
      go_region_held3 (fun w' => w'.cell? ⟨b, off + k * 5, none⟩ = some (.string s.p) ∧ w'.cell? ⟨b, off + k * 5 + 1, none⟩ = some (.bool s.done) ∧ w'.cell? ⟨b, off + k * 5 + 2, none⟩ = some (.int .i64 s.model) ∧ w'.cell? ⟨b, off + k * 5 + 3, none⟩ = some (.slice s.oa s.on.length s.oc) ∧ w'.cell? ⟨b, off + k * 5 + 4, none⟩ = some (.int .i64 s.at')) (first | go_keep | (simp only [five_far hbne]; exact ⟨f0, f1, f2, f3, f4⟩))
        ((go_at_call 13; refine (clone_any s.oa s.on s.oc _ (by omega) HNN.out (by exact HSS.out)).mono ?_; rintro e w2 ⟨a', c', rfl, hna, ho2, hb2⟩; have hkeep := fun j v (h : wr.cell? ⟨b, off + k * 5 + j, none⟩ = some v) => (hb2.cell (p := ⟨b, off + k * 5 + j, none⟩) (by exact Nat.lt_trans hbl hGlt)).trans h; have f0 := hkeep 0 _ d0; have f1 := hkeep 1 _ d1; have f2 := hkeep 2 _ d2; have f3 := hkeep 3 _ d3; have f4 := hkeep 4 _ d4; simp only [Nat.add_zero] at f0; have hrow2 := (hb2.block w.heap.size (by exact hGlt)).trans HRW.out; obtain ⟨u0, e0⟩ := part_cell hrow2 (HL5.out 0 (by omega)); obtain ⟨u1, e1⟩ := part_cell hrow2 (HL5.out 1 (by omega)); obtain ⟨u2, e2⟩ := part_cell hrow2 (HL5.out 2 (by omega)); obtain ⟨u3, e3⟩ := part_cell hrow2 (HL5.out 3 (by omega)); obtain ⟨u4, e4⟩ := part_cell hrow2 (HL5.out 4 (by omega)); simp only [Nat.add_zero] at e0; have hfz := fun j => frozen_of_block (i := j) hrow2; have HR2 := hidden hrow2; clear hrow2 hkeep))
      have hb5 := five_block HR2.out (k * 5) (k * 5 + 1) (k * 5 + 2) (k * 5 + 3) (k * 5 + 4) (.string s.p) (.bool s.done) (.int .i64 s.model) (.slice a' s.on.length c') (.int .i64 s.at')
      have hg5 := five_grown w2 w.heap.size (k * 5) (k * 5 + 1) (k * 5 + 2) (k * 5 + 3) (k * 5 + 4) (.string s.p) (.bool s.done) (.int .i64 s.model) (.slice a' s.on.length c') (.int .i64 s.at')
      have hl' : st'.length = k := by
        have h1 := congrArg List.length HR.out.1
        simp at h1
        omega
      have hrs := partRow_step st' (st.length - (k + 1)) ⟨s.p, s.done, s.model, s.on, s.at', a', c'⟩
      rw [hl', show st.length - (k + 1) + 1 = st.length - k by omega] at hrs
      rw [hrs] at hb5
      generalize (((((w2.setCell ⟨w.heap.size, k * 5, none⟩ (.string s.p)).setCell ⟨w.heap.size, k * 5 + 1, none⟩ (.bool s.done)).setCell ⟨w.heap.size, k * 5 + 2, none⟩ (.int .i64 s.model)).setCell ⟨w.heap.size, k * 5 + 3, none⟩ (.slice a' s.on.length c')).setCell ⟨w.heap.size, k * 5 + 4, none⟩ (.int .i64 s.at')) = w5 at hb5 hg5 ⊢
      have hgw2 : wr.grownBy w2 none := ⟨hb2.os, hb2.tape, hb2.output, hb2.size, fun i hi _ => hb2.block i hi⟩
      have nr : NotRow w2 w.heap.size 9 := notRow_row HR2.out (by decide)
      have HREL : Hid ((st' ++ [(⟨s.p, s.done, s.model, s.on, s.at', a', c'⟩ : StepD)]).map StepD.c = (st.take (k + 1)).map StepD.c ∧ w5.heap[w.heap.size]? = some (.cells (partRow (st' ++ [⟨s.p, s.done, s.model, s.on, s.at', a', c'⟩]) (st.length - (k + 1))).toArray 47 (0, 0)) ∧
          (∀ s' ∈ st' ++ [(⟨s.p, s.done, s.model, s.on, s.at', a', c'⟩ : StepD)], w5.ownsRow w.heap.size 9 1 (.slice s'.oa s'.on.length s'.oc) s'.on.length (s'.on.map Value.string)) ∧ (∀ s' ∈ st' ++ [(⟨s.p, s.done, s.model, s.on, s.at', a', c'⟩ : StepD)], s'.oa = none → s'.on = [])) := by
        refine ⟨?_, hb5, ?_, ?_⟩
        · have hk1 : st.take (k + 1) = st.take k ++ [s] := by
            have := HK.out
            rw [List.take_add_one, this]
            rfl
          rw [hk1, List.map_append, List.map_append, HR.out.1]
          rfl
        · intro s' hs'
          rcases List.mem_append.1 hs' with h | h
          · exact owns_turn (owns_kept (HR.out.2.2.1 s' h) hgw2) hg5 nr
          · rw [List.mem_singleton.1 h]
            exact owns_turn (owns_base ho2 (Nat.le_of_lt hGlt)) hg5 nr
        · intro s' hs'
          rcases List.mem_append.1 hs' with h | h
          · exact HR.out.2.2.2 s' h
          · rw [List.mem_singleton.1 h]
            intro e
            simp only at e
            subst e
            refine HNN.out ?_
            cases ho : s.oa with
            | none => rfl
            | some y => rw [ho] at hna; simp at hna
      have HGW : Hid (w.grownBy w5 none) := grown_new2 (grown_trans hgw hgw2) hg5 (Nat.le_refl _)
      clear hb5 hg5 hrs hgw2 nr ho2 hb2 HR2 f0 f1 f2 f3 f4 e0 e1 e2 e3 e4 hfz HR HRW HSS HNN HL5 d0 d1 d2 d3 d4 HK hgw
      go_wp2_with fail
      go_roundw
      case rel => exact ⟨k + 1, _, by omega, by go_num, HREL, HGW.out⟩
      case measure => simp [intOf]; omega
    · have e : k = st.length := by omega
      subst e
      clear hs hon
      go_wp2_with fail
      go_ret
      refine ⟨rfl, ⟨st', ?_, ?_, HR.out.2.2.1, HR.out.2.2.2⟩, hgw⟩
      · have := HR.out.1
        rwa [List.take_of_length_le (Nat.le_refl _)] at this
      · have := HR.out.2.1
        rw [Nat.sub_self] at this
        simpa [partRow] using this

end Go.Proofs.Qxb6609132a
