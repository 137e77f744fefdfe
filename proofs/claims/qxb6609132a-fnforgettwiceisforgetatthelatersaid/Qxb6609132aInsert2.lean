import Derived.Test.Qxb6609132aInsert
import Derived.Laws.Externs
namespace Go.Proofs.Qxb6609132a
open Go.RowKit

theorem overlaps_any (w : World) (vb g off lb cb : Nat) (x : Int) (cur : Array Value) (hne : vb ≠ g) (hv : w.heap[vb]? = some (.cells #[.int .i64 x] 29 (0, 0))) (hg : w.heap[g]? = some (.cells cur 29 (0, 0))) (hc : cur.size ≠ 0) :
    (callFunc 61 #[.slice (some ⟨vb, 0, none⟩) 1 1, .slice (some ⟨g, off, none⟩) lb cb]).run Try.prog w = .ok (.value (.bool false)) w := by
  rw [run_callFunc_extern Try.func61 (by kernel_rfl) (by kernel_rfl) (by kernel_rfl) (e := Extern.SlicesOverlaps.overlaps #[31, 31] #[4]) (by kernel_rfl),
    Lib.run_overlaps_apart w 31 4 29 Try.underlying31 1 sizeOf29 ⟨vb, 0, none⟩ ⟨g, off, none⟩ 1 1 lb cb hne 29 29 1 cur.size (by simp [World.shape?, hv]) (by simp [World.shape?, hg]) hc (by simp [World.frozen?, hv]) (by simp [World.frozen?, hv])]
  rfl

theorem grown_both {a b c : World} {r : Option Nat} (h : a.grownBy b r) (k : b.grownBy c r) : a.grownBy c r :=
  ⟨k.os.trans h.os, k.tape.trans h.tape, k.output.trans h.output, Nat.le_trans h.size k.size, fun i hi hn => (k.block i (Nat.lt_of_lt_of_le hi h.size) hn).trans (h.block i hi hn)⟩

theorem grown_undrew {a b : World} {r : Option Nat} (h : a.drew.grownBy b r) : a.grownBy b r := ⟨h.os, h.tape, h.output, h.size, h.block⟩

theorem cells_at {w : World} {g : Nat} {cur : List Value} {t : TypeId} (hg : w.heap[g]? = some (.cells cur.toArray t (0, 0))) (o : Nat) (cs : List Value) (h : ∀ j, j < cs.length → cs[j]? = cur[o + j]?) :
    ∀ j v, cs[j]? = some v → w.cell? ((⟨g, o, none⟩ : Addr).add j) = some v := by
  intro j v hj
  rw [Addr.add_lit]
  have hl := (List.getElem?_eq_some_iff.1 hj).1
  rw [h j hl] at hj
  simp [World.cell?, hg, hj]

set_option maxRecDepth 100000 in
set_option maxHeartbeats 2000000 in
theorem insert_shift (g c i : Nat) (zs : List Int) (x : Int) (vb : Nat) (cur : List Value) (w : World) (hm : zs.length ≤ 1048576) (hi : i < zs.length) (hroom : zs.length + 1 ≤ c) (_hcm : c ≤ 9223372036854775807)
    (hg : w.heap[g]? = some (.cells cur.toArray 29 (0, 0))) (hcs : cur.length = c) (htake : cur.take zs.length = zs.map (Value.int .i64)) (hv : w.heap[vb]? = some (.cells #[.int .i64 x] 29 (0, 0))) (hne : vb ≠ g) :
    Calls Try.prog 58 #[.slice (some ⟨g, 0, none⟩) zs.length c, .int .i64 i, .slice (some ⟨vb, 0, none⟩) 1 1] w fun e w' => e = .returned (.slice (some ⟨g, 0, none⟩) (zs.length + 1) c) ∧
      (∃ cur', w'.heap[g]? = some (.cells cur' 29 (0, 0)) ∧ cur'.size = c ∧ cur'.toList.take (zs.length + 1) = (insAt zs i x).map (Value.int .i64)) ∧ w.grownBy w' (some g) := by
  have hov := fun lb cb => overlaps_any w vb g (i + 1) lb cb x cur.toArray hne hv hg (by simp only [List.size_toArray]; omega)
  have hw1 : IntKind.i64.wrap ((i : Int) + 1) = (i : Int) + 1 := by rw [IntKind.wrap_i64]; omega
  have hz2 : ¬ ((i : Int) = (zs.length : Int)) := by omega
  have hb2 : ¬ (c = i + 1) := by omega
  have hb4 : ¬ (c = i) := by omega
  have hin : i ≤ zs.length := by omega
  have hb1 : (0 : Int) ≤ (i : Int) + 1 := by omega
  have hb3 : (i : Int) ≤ (zs.length : Int) + 1 := by omega
  have htn : ((i : Int) + 1).toNat = i + 1 := by omega
  obtain ⟨L, hL⟩ : ∃ L, L = zs.map (Value.int .i64) := ⟨_, rfl⟩
  have hLl : L.length = zs.length := by rw [hL]; simp
  have h1L : ∀ u ∈ L, u.oneCell' = true := by rw [hL]; exact ints_one zs
  rw [← hL] at htake
  have hn1 : (L.drop i).length = Nat.min (zs.length + 1 - i) (zs.length + 1 - (i + 1)) := by simp only [List.length_drop, hLl, Nat.min_def]; split <;> omega
  have hsrc1 : ∀ j v, (L.drop i)[j]? = some v → w.cell? ((⟨g, i, none⟩ : Addr).add j) = some v := cells_at hg i _ (fun j hj => by
    rw [← htake, List.getElem?_drop, List.getElem?_take, if_pos (by simp [hLl] at hj; omega)])
  have hfit1 : i + 1 + (L.drop i).length ≤ cur.length := by simp only [List.length_drop, hLl]; omega
  have h1d : ∀ u ∈ L.drop i, u.oneCell' = true := fun u hu => h1L u (List.mem_of_mem_drop hu)
  obtain ⟨D, hD⟩ : ∃ D, D = L.drop i := ⟨_, rfl⟩
  rw [← hD] at hn1 hsrc1 hfit1 h1d
  have hfit2 : i + [Value.int .i64 x].length ≤ (splice cur (i + 1) D).length := by rw [length_splice _ _ _ hfit1]; simp; omega
  have hn2 : [Value.int .i64 x].length = Nat.min 1 (zs.length + 1 - i) := by simp only [List.length_cons, List.length_nil, Nat.min_def]; split <;> omega
  have HEND : Hid (∀ (w' : World), w'.heap[g]? = some (.cells (splice (splice cur (i + 1) D) i [Value.int .i64 x]).toArray 29 (0, 0)) → ∃ cur', w'.heap[g]? = some (.cells cur' 29 (0, 0)) ∧ cur'.size = c ∧ cur'.toList.take (zs.length + 1) = (insAt zs i x).map (Value.int .i64)) := fun w' h => by
    refine ⟨_, h, ?_, ?_⟩
    · simp only [List.size_toArray]
      rw [length_splice _ _ _ hfit2, length_splice _ _ _ hfit1, hcs]
    · rw [hD, map_insAt, ← hL]
      exact shift_row (by omega) htake hi
  have HG := hidden hg
  have HV := hidden hv
  have HN1 := hidden hn1
  have HS1 := hidden hsrc1
  have HF1 := hidden hfit1
  have HD1 := hidden h1d
  have HN2 := hidden hn2
  have HF2 := hidden hfit2
  clear hg hv htake hcs hL hLl h1L hn1 hsrc1 hfit1 h1d hD hn2 hfit2
  go_enter Try.func58, Try.ntmps58
  go_wp2_with (simp only [hov])
  go_region_law ((refine step_copy_here rfl _ _ 31 31 rfl 29 Try.underlying31 size29 g (i + 1) (zs.length + 1 - (i + 1)) (c - (i + 1)) ⟨g, i, none⟩ (zs.length + 1 - i) (c - i) (by simp [Act.eval, Act.put]) (by simp [Act.eval, Act.put]) cur 29 (by exact HG.out) D HN1.out (by exact HS1.out) HF1.out HD1.out ?_; intro w1 hg1 hgr1))
  have hv1 : w1.heap[vb]? = some (.cells #[.int .i64 x] 29 (0, 0)) := (hgr1.block vb (lt_of_block HV.out) (fun e => hne (by injection e))).trans HV.out
  have HS2 := hidden (news_one (cell_of_block (i := 0) hv1 rfl))
  obtain ⟨w2, hcp, hg2, hgr2⟩ := run_copy_here (P := Try.prog) w1 31 31 3 29 g i (zs.length + 1 - i) (c - i) ⟨vb, 0, none⟩ 1 1 (splice cur (i + 1) D) 29 [.int .i64 x] Try.underlying31 size29 hg1.out HN2.out HS2.out HF2.out (ints_one [x])
  have HG2 := hidden hg2
  have HR2 := hidden hgr2
  have HR1 := hidden hgr1
  clear hv1 hov hg2 hgr2 hgr1
  go_wp2_with fail
  go_ret
  refine ⟨rfl, HEND.out w2 HG2.out, grown_both (grown_undrew HR1.out) HR2.out⟩

set_option maxRecDepth 100000 in
set_option maxHeartbeats 2000000 in
theorem insert_grow (g c i : Nat) (zs : List Int) (x : Int) (vb : Nat) (cur : List Value) (w : World) (hm : zs.length ≤ 1048576) (hi : i < zs.length) (hnc : zs.length ≤ c) (hroom : c < zs.length + 1)
    (hg : w.heap[g]? = some (.cells cur.toArray 29 (0, 0))) (htake : cur.take zs.length = zs.map (Value.int .i64)) (hv : w.heap[vb]? = some (.cells #[.int .i64 x] 29 (0, 0))) :
    Calls Try.prog 58 #[.slice (some ⟨g, 0, none⟩) zs.length c, .int .i64 i, .slice (some ⟨vb, 0, none⟩) 1 1] w fun e w' => ∃ c', e = .returned (.slice (some ⟨w.heap.size, 0, none⟩) (zs.length + 1) c') ∧ zs.length + 1 ≤ c' ∧ c' ≤ maxLen ∧
      (∃ cur', w'.heap[w.heap.size]? = some (.cells cur' 29 (0, 0)) ∧ cur'.size = c' ∧ cur'.toList.take (zs.length + 1) = (insAt zs i x).map (Value.int .i64)) ∧ w.grownBy w' none := by
  obtain ⟨i0, hi0, hz0, hzs, hzb⟩ := info_parts Try.info29
  obtain ⟨L, hL⟩ : ∃ L, L = zs.map (Value.int .i64) := ⟨_, rfl⟩
  have hLl : L.length = zs.length := by rw [hL]; simp
  have h1L : ∀ u ∈ L, u.oneCell' = true := by rw [hL]; exact ints_one zs
  rw [← hL] at htake
  have hcl : zs.length ≤ cur.length := by
    have := congrArg List.length htake
    rw [hLl, List.length_take] at this
    omega
  have hold : (Builtin.firstCells i0.size i (.slice (some ⟨g, 0, none⟩) i c)).run Try.prog w.drew = .ok (L.take i).toArray w.drew := by
    rw [hzs]
    refine run_firstCells_some w.drew 1 i ⟨g, 0, none⟩ i c (L.take i) (by rw [List.length_take]; omega) ?_
    intro j v hj
    exact cells_at (w := w.drew) hg 0 _ (fun j hj => by
      simp [hLl] at hj
      rw [← htake, List.getElem?_take, if_pos (by omega), List.getElem?_take, if_pos (by omega), Nat.zero_add]) j v hj
  have hkk : (zs.length : Int) + 1 - (i : Int) = ((zs.length + 1 - i : Nat) : Int) := by omega
  have hik : i + (zs.length + 1 - i) = zs.length + 1 := by omega
  obtain ⟨G, hG⟩ : ∃ G, G = grownCap w (zs.length + 1) c 29 := ⟨_, rfl⟩
  obtain ⟨row, hrow⟩ : ∃ row : List Value, row.toArray = (L.take i).toArray ++ Builtin.zeroCells (Value.int .i64 0).cells (zs.length + 1 - i) ++ Builtin.zeroCells (Value.int .i64 0).cells (G - (zs.length + 1)) := ⟨_, Array.toArray_toList⟩
  have hrz : ∀ ty, (Builtin.append_ #[31, 3] ty #[.slice (some ⟨g, 0, none⟩) i c, .int .i64 ((zs.length : Int) + 1 - (i : Int))]).run Try.prog w =
      .ok (.slice (some ⟨w.heap.size, 0, none⟩) (zs.length + 1) G) (w.drew.alloc (.cells row.toArray 29)) := fun ty => by
    have h := Lib.run_append_grow_zeros w 31 3 ty 29 i0 _ .i64 .i64 Try.underlying31 Try.underlying3 hi0 hz0 (some ⟨g, 0, none⟩) i c (L.take i) hold (zs.length + 1 - i) (by omega) (by omega) (by omega) (by omega) (by rw [hzb]; omega) (by rw [hzb, hik]; exact growslice_fits hroom (by omega))
    rw [hik, ← hG, ← hrow] at h
    rw [hkk]
    exact h
  have hGn : zs.length + 1 ≤ G := by rw [hG]; exact grownCap_ge w _ _ _
  have hG63 : G ≤ maxLen := by rw [hG]; exact grownCap_le_maxLen w (zs.length + 1) c 29 (by unfold maxLen; omega)
  have hrl : row.length = G := by
    have := congrArg Array.size hrow
    simp [Builtin.zeroCells, Value.cells] at this
    omega
  have hrt : row.take i = L.take i := by
    have := congrArg Array.toList hrow
    simp only [Array.toList_append] at this
    rw [this, List.append_assoc, List.take_append_of_le_length (by simp; omega)]
    exact List.take_of_length_le (by simp; omega)
  have hbw := lt_of_block hg
  have hvw := lt_of_block hv
  obtain ⟨D, hD⟩ : ∃ D, D = L.drop i := ⟨_, rfl⟩
  have hDl : D.length = zs.length - i := by rw [hD]; simp [hLl]
  have h1d : ∀ u ∈ D, u.oneCell' = true := fun u hu => h1L u (List.mem_of_mem_drop (by rw [← hD]; exact hu))
  have hfit1 : i + [Value.int .i64 x].length ≤ row.length := by simp; omega
  have hfit2 : i + 1 + D.length ≤ (splice row i [Value.int .i64 x]).length := by rw [length_splice _ _ _ hfit1]; omega
  have hn1 : [Value.int .i64 x].length = Nat.min 1 (zs.length + 1 - i) := by simp only [List.length_cons, List.length_nil, Nat.min_def]; split <;> omega
  have hn2 : D.length = Nat.min (zs.length - i) (zs.length + 1 - (i + 1)) := by rw [hDl]; simp only [Nat.min_def]; split <;> omega
  have hW1 : (w.drew.alloc (.cells row.toArray 29)).heap[w.heap.size]? = some (.cells row.toArray 29 (0, 0)) := at_new rfl
  have hWg : w.grownBy (w.drew.alloc (.cells row.toArray 29)) none := grown_alloc (grown_drew w) _
  have hv1 := block_kept hv hWg
  have hg1 := block_kept hg hWg
  obtain ⟨W2, hcp, hr2, hgr2⟩ := run_copy_here (P := Try.prog) (w.drew.alloc (.cells row.toArray 29)) 31 31 3 29 w.heap.size i (zs.length + 1 - i) (G - i) ⟨vb, 0, none⟩ 1 1 row 29 [.int .i64 x] Try.underlying31 size29 hW1 hn1 (news_one (cell_of_block (i := 0) hv1 rfl)) hfit1 (ints_one [x])
  have hg2 : W2.heap[g]? = some (.cells cur.toArray 29 (0, 0)) := (hgr2.block g (lt_of_block hg1) (fun e => by injection e with e; omega)).trans hg1
  have hsrc2 : ∀ j v, D[j]? = some v → W2.cell? ((⟨g, i, none⟩ : Addr).add j) = some v := cells_at hg2 i _ (fun j hj => by
    rw [hD, ← htake, List.getElem?_drop, List.getElem?_take, if_pos (by omega)])
  have HEND : Hid (∀ (w' : World), w'.heap[w.heap.size]? = some (.cells (splice (splice row i [Value.int .i64 x]) (i + 1) D).toArray 29 (0, 0)) → ∃ cur', w'.heap[w.heap.size]? = some (.cells cur' 29 (0, 0)) ∧ cur'.size = G ∧ cur'.toList.take (zs.length + 1) = (insAt zs i x).map (Value.int .i64)) := fun w' h => by
    refine ⟨_, h, ?_, ?_⟩
    · simp only [List.size_toArray]
      rw [length_splice _ _ _ hfit2, length_splice _ _ _ hfit1, hrl]
    · rw [hD, map_insAt, ← hL]
      exact grow_row (by omega) hrt hLl hi
  have HGR : Hid (∀ w', W2.grownBy w' (some w.heap.size) → w.grownBy w' none) := fun w' h => grown_new2 (grown_new2 hWg hgr2 (Nat.le_refl _)) h (Nat.le_refl _)
  have HR2 := hidden hr2
  have HS2 := hidden hsrc2
  have HF2 := hidden hfit2
  have HN2 := hidden hn2
  have HD1 := hidden h1d
  have HGM := hidden hG63
  have hz2 : ¬ ((i : Int) = (zs.length : Int)) := by omega
  have hz3 : (c : Int) < (zs.length : Int) + 1 := by omega
  have hw1 : IntKind.i64.wrap ((i : Int) + 1) = (i : Int) + 1 := by rw [IntKind.wrap_i64]; omega
  have hb1 : (0 : Int) ≤ (i : Int) + 1 := by omega
  have hin : i ≤ zs.length := by omega
  have htn : ((i : Int) + 1).toNat = i + 1 := by omega
  have hb3 : (i : Int) ≤ (zs.length : Int) := by omega
  have hGi : ¬ (G = i) := by omega
  have hGim : ¬ (G = i + 1) := by omega
  have hci : ¬ (c = i) := by omega
  have hG64 : G ≤ 9223372036854775807 := by unfold maxLen at hG63; omega
  have hrz' := fun ty => hrz ty
  clear hg hv htake hL hLl h1L hcl hold hkk hik hG hrow hrz hG63 hrl hrt hbw hvw hD hDl h1d hfit1 hfit2 hn1 hn2 hW1 hWg hv1 hg1 hr2 hgr2 hg2 hsrc2 hi0 hz0 hzs hzb
  generalize w.drew.alloc (.cells row.toArray 29) = W1 at hcp hrz'
  go_enter Try.func58, Try.ntmps58
  go_wp2_with (at_builtin; refine Lib.wpList_append_run _ rfl _ _ _ _ rfl _ _ rfl rfl _ _ (hrz' _) ?_)
  go_region_law ((refine step_copy_here rfl _ _ 31 31 rfl 29 Try.underlying31 size29 w.heap.size (i + 1) (zs.length + 1 - (i + 1)) (G - (i + 1)) ⟨g, i, none⟩ (zs.length - i) (c - i) (by simp [Act.eval, Act.put]) (by simp [Act.eval, Act.put]) (splice row i [.int .i64 x]) 29 (by exact HR2.out) D HN2.out (by exact HS2.out) HF2.out HD1.out ?_; intro w3 hg3 hgr3))
  go_wp2_with fail
  go_ret
  exact ⟨G, rfl, hGn, HGM.out, HEND.out w3 hg3.out, HGR.out w3 (grown_undrew hgr3)⟩

theorem grown_weaken {a b : World} {r : Option Nat} (h : a.grownBy b none) : a.grownBy b r := ⟨h.os, h.tape, h.output, h.size, fun k hk _ => h.block k hk (by simp)⟩

/-- slices.Insert of one moment into a list of the call's own. -/
theorem insert_any (B : Nat) (a : Option Addr) (c i : Nat) (zs : List Int) (x : Int) (vb : Nat) (w : World) (hB : B ≤ w.heap.size) (hm : zs.length ≤ 1048576) (hi : i ≤ zs.length)
    (hown : w.ownsRow B 29 1 (.slice a zs.length c) zs.length (zs.map (Value.int .i64))) (hv : w.heap[vb]? = some (.cells #[.int .i64 x] 29 (0, 0))) (hne : (Value.slice a zs.length c).ownBlock ≠ some vb) :
    Calls Try.prog 58 #[.slice a zs.length c, .int .i64 i, .slice (some ⟨vb, 0, none⟩) 1 1] w fun e w' => ∃ v', e = .returned v' ∧
      w'.ownsRow B 29 1 v' (insAt zs i x).length ((insAt zs i x).map (Value.int .i64)) ∧ w.grownBy w' (Value.slice a zs.length c).ownBlock := by
  rw [length_insAt hi]
  by_cases he : i = zs.length
  · subst he
    exact insert_end B a c zs x vb w hB hm hown (cell_of_block (i := 0) hv rfl)
  · have hown' := hown
    rcases hown.2 with ⟨h1, h2⟩ | ⟨g, cap, cur, h1, hBg, hg, hnc, hcm, hcs, htake⟩
    · omega
    · injection h1 with e1 e2 e3
      subst e1 e3
      rw [Nat.mul_one] at hcs htake
      have hg' : w.heap[g]? = some (.cells cur.toList.toArray 29 (0, 0)) := by simpa using hg
      have hcl : cur.toList.length = c := by simpa using hcs
      have hlen : (insAt zs i x).length = zs.length + 1 := length_insAt hi
      by_cases hroom : zs.length + 1 ≤ c
      · refine (insert_shift g c i zs x vb cur.toList w hm (by omega) hroom (by unfold maxLen at hcm; omega) hg' hcl htake hv (fun e => hne (by simp [Value.ownBlock, e]))).mono ?_
        rintro e w' ⟨rfl, ⟨cur', h1, h2, h3⟩, h4⟩
        exact ⟨_, rfl, ⟨by simp [hlen], .inr ⟨g, c, cur', rfl, hBg, h1, hroom, hcm, by rw [Nat.mul_one]; exact h2, by rw [Nat.mul_one]; exact h3⟩⟩, h4⟩
      · refine (insert_grow g c i zs x vb cur.toList w hm (by omega) hnc (by omega) hg' htake hv).mono ?_
        rintro e w' ⟨c', rfl, k1, k2, ⟨cur', h1, h2, h3⟩, h4⟩
        exact ⟨_, rfl, ⟨by simp [hlen], .inr ⟨_, c', cur', rfl, hB, h1, k1, k2, by rw [Nat.mul_one]; exact h2, by rw [Nat.mul_one]; exact h3⟩⟩, grown_weaken h4⟩

end Go.Proofs.Qxb6609132a
