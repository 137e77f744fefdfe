import Derived.Test.Qxb6609132aCore
import Derived.Test.Qxb6609132aWait
namespace Go.Proofs.Qxb6609132a
open Go.RowKit Go.Maps

/-- What Forget leaves of the begun moments. -/
def cutBg (bg : List Int) (bf : Int) : List Int := if 1 < bg.countP (· < bf) then bg.drop (bg.countP (· < bf) - 1) else bg

/-- The later of two moments, as Go's max reckons it. -/
def mx (a b : Int) : Int := if a < b then b else a

set_option maxRecDepth 20000 in
set_option maxHeartbeats 4000000 in
theorem forget_any {B C : Nat} {L : Lay} {bg : List Int} {E : DataW Value} {fg : Int} {N : Nat} (w : World) (bf : Int) (pd : Lit → Bool) (hpd : ∀ s a, s.size ≤ maxLen → (Lit.int .i64 a).wf = true → pd (keyD s a) = decide (a < bf))
    (h : Core B C L bg E fg N w) (hC : C ≤ w.heap.size) (hso : bg.Pairwise (· ≤ ·)) (hlen : bg.length ≤ 1048576) :
    Calls Try.prog 35 #[.pointer (some ⟨L.sb, 0, none⟩), .int .i64 bf] w fun e w' => e = .returned (.tuple #[]) ∧ Core B C L (cutBg bg bf) (Lib.deleteFuncD (fun k _ => pd k) E) (mx fg bf) N w' ∧ Frame B C w w' := by
  have HPD := hidden hpd
  have HSO := hidden hso
  have hg0 : w.grownBy (w.alloc (Obj.cells #[.int .i64 bf] 29)) none := World.grownBy_alloc w _ none
  have HC1 := hidden (h.grown hC hg0)
  have HF1 := hidden ((Frame.refl B C w).grown hg0 (fun j e => by cases e))
  clear h hg0 hpd hso
  go_enter Try.func35, Try.ntmps35
  go_wp2_with fail
  have cb : (w.alloc (Obj.cells #[.int .i64 bf] 29)).cell? ⟨w.heap.size, 0, none⟩ = some (.int .i64 bf) := by go_keep
  have hs1 : w.heap.size < (w.alloc (Obj.cells #[.int .i64 bf] 29)).heap.size := by simp
  generalize w.alloc (Obj.cells #[.int .i64 bf] 29) = w1 at cb HC1 HF1 hs1 ⊢
  obtain ⟨bv, c5, c6, c7, c8, c9, c10, hown, hfz⟩ := HC1.out.cells
  have hsbC := HC1.out.sb
  have hne : L.sb ≠ w.heap.size := by omega
  have hf10 := hfz 10
  have HOWN := hidden hown
  clear hown
  have hsz2 : C ≤ (w1.setCell ⟨L.sb, 10, none⟩ (.int .i64 (mx fg bf))).heap.size := by simp [World.setCell]; omega
  have HC2 : Hid (Core B C L bg E (mx fg bf) N (w1.setCell ⟨L.sb, 10, none⟩ (.int .i64 (if fg < bf then bf else fg))).drew) := (HC1.out.setFg (mx fg bf)).grown hsz2 (grown_drew _)
  have HF2 : Hid (Frame B C w (w1.setCell ⟨L.sb, 10, none⟩ (.int .i64 (if fg < bf then bf else fg))).drew) := (HF1.out.set (p := ⟨L.sb, 10, none⟩) (HC1.out.sb) (.int .i64 (mx fg bf))).grown (grown_drew _) (fun j e => by cases e)
  have cb2 : (w1.setCell ⟨L.sb, 10, none⟩ (.int .i64 (if fg < bf then bf else fg))).drew.cell? ⟨w.heap.size, 0, none⟩ = some (.int .i64 bf) := by
    show (w1.setCell ⟨L.sb, 10, none⟩ (.int .i64 (if fg < bf then bf else fg))).cell? ⟨w.heap.size, 0, none⟩ = some (.int .i64 bf)
    rw [World.cell?_setCell_far _ _ _ _ (by exact hne)]
    exact cb
  go_region
  generalize (w1.setCell ⟨L.sb, 10, none⟩ (.int .i64 (if fg < bf then bf else fg))).drew = w2 at HC2 HF2 cb2 ⊢
  generalize (if fg < bf then bf else fg) = mv
  clear HC1 HF1 c5 c6 c7 c8 c9 c10 hfz hf10 HOWN hsz2 cb hs1 hne
  generalize hbb : w.heap.size = bb at cb2 ⊢
  have HBB := hidden hbb
  clear hbb
  have hg3 : w2.grownBy (w2.alloc (Obj.cells #[.func (.func 43) #[] #[.pointer (some ⟨bb, 0, none⟩)]] 76)) none := World.grownBy_alloc w2 _ none
  have hC2 : C ≤ w2.heap.size := Nat.le_trans hC HF2.out.size
  have HC3 := hidden (HC2.out.grown hC2 hg3)
  have HF3 := hidden (HF2.out.grown hg3 (fun j e => by cases e))
  have cb3 := hg3.cell cb2 (by simp)
  have co3 : (w2.alloc (Obj.cells #[.func (.func 43) #[] #[.pointer (some ⟨bb, 0, none⟩)]] 76)).cell? ⟨w2.heap.size, 0, none⟩ = some (.func (.func 43) #[] #[.pointer (some ⟨bb, 0, none⟩)]) := by go_keep
  have hob : w2.heap.size < (w2.alloc (Obj.cells #[.func (.func 43) #[] #[.pointer (some ⟨bb, 0, none⟩)]] 76)).heap.size := by simp
  obtain ⟨bv, c5, _, _, _, _, _, _⟩ := HC3.out.cells
  have hsbC := HC3.out.sb
  clear HC2 HF2 hg3
  go_wp2_with fail
  generalize w2.alloc (Obj.cells #[.func (.func 43) #[] #[.pointer (some ⟨bb, 0, none⟩)]] 76) = w3 at HC3 HF3 cb3 co3 hob c5 ⊢
  generalize w2.heap.size = ob at co3 hob ⊢
  refine (delEmpty44 L.mK 0 _ _ HC3.out.walked).mono ?_
  rintro e w4 ⟨rfl, hg4⟩
  have HC4 := hidden (HC3.out.grown (Nat.le_trans hC HF3.out.size) hg4)
  have HF4 := hidden (HF3.out.grown hg4 (fun j e => by cases e))
  have cb4 := hg4.cell cb3 (by simp)
  have co4 := hg4.cell co3 (by simp)
  obtain ⟨bv4, _, c6, _, _, _, _, _⟩ := HC4.out.cells
  clear HC3 HF3 cb3 co3 hg4 c5
  go_wp2_with fail
  refine (delEnded pd bf HPD.out L.mE N bb ob E _ HC4.out.ended cb4 co4).mono ?_
  rintro e w5 ⟨rfl, hE5, hg5⟩
  have HC5 := hidden (HC4.out.turnEnded hg5 hE5)
  have HF5 := hidden (HF4.out.grown hg5 (fun j e => by cases e; exact HC4.out.mE))
  have cb5 := hg5.cell cb4 (rowCell_ne HC4.out.ended cb4)
  obtain ⟨bv5, _, _, _, c8, _, _, _⟩ := HC5.out.cells
  clear HC4 HF4 cb4 co4 hg5 hE5 c6
  go_wp2_with fail
  refine (delEmpty48 L.mA 0 _ _ HC5.out.aborted).mono ?_
  rintro e w6 ⟨rfl, hg6⟩
  have HC6 := hidden (HC5.out.grown (Nat.le_trans hC HF5.out.size) hg6)
  have HF6 := hidden (HF5.out.grown hg6 (fun j e => by cases e))
  have cb6 := hg6.cell cb5 (by simp)
  obtain ⟨bv6, _, _, _, _, c9, _, _⟩ := HC6.out.cells
  clear HC5 HF5 cb5 hg6 c8
  go_wp2_with fail
  refine (delEmpty50 L.mG 0 _ _ HC6.out.engaged).mono ?_
  rintro e w7 ⟨rfl, hg7⟩
  have HC7 := hidden (HC6.out.grown (Nat.le_trans hC HF6.out.size) hg7)
  have HF7 := hidden (HF6.out.grown hg7 (fun j e => by cases e))
  have cb7 := hg7.cell cb6 (by simp)
  obtain ⟨bv7, _, _, c7, _, _, _, hown, hfz⟩ := HC7.out.cells
  clear HC6 HF6 cb6 hg7 c9 HPD
  have hbv : ∃ a c, bv7 = .slice a bg.length c := by
    rcases hown.2 with ⟨rfl, e⟩ | ⟨g, cap, cur, rfl, _⟩
    · exact ⟨none, 0, by rw [e]⟩
    · exact ⟨_, _, rfl⟩
  obtain ⟨ab, cp, rfl⟩ := hbv
  have HI := hidden (ints_of_owns hown)
  have HOWN := hidden hown
  have hfz7 := hfz 7
  clear hown hfz
  have hd7 : w7.grownBy w7.drew none := grown_drew w7
  have HS : Hid (Calls Try.prog 52 #[.slice ab bg.length cp, .int .i64 bf] w7.drew fun e w' => SearchIs (bg.countP (· < bf)) e ∧ w' = w7.drew) := search_any ab bg cp bf w7.drew hlen HI.out HSO.out
  have hcl : bg.countP (· < bf) ≤ bg.length := List.countP_le_length
  generalize hcnt : bg.countP (· < bf) = cnt at HS hcl
  have HCNT := hidden hcnt
  have HF8 := hidden (HF7.out.grown hd7 (fun j e => by cases e))
  have HC8 := hidden (HC7.out.grown (Nat.le_trans hC HF7.out.size) hd7)
  have HOWN8 := hidden (show w7.drew.ownsRow B 29 1 (.slice ab bg.length cp) bg.length (bg.map (Value.int .i64)) from HOWN.out)
  have c78 := hd7.cell c7 (by simp)
  have cb8 := hd7.cell cb7 (by simp)
  have hfz8 : w7.drew.frozen? ⟨L.sb, 7, none⟩ = false := hfz7
  clear hcnt hd7 HF7 HC7 HOWN HI hfz7
  go_wp2_with fail
  go_region_held3 (fun w' => w'.cell? ⟨L.sb, 7, none⟩ = some (.slice ab bg.length cp) ∧ w'.cell? ⟨bb, 0, none⟩ = some (.int .i64 bf)) (go_keep)
    ((go_at_call 52; refine HS.out.mono ?_; rintro e w8 ⟨⟨bq, rfl⟩, rfl⟩))
  generalize w7.drew = w8 at HF8 HC8 HOWN8 c78 cb8 hfz8 ⊢
  clear HS c7 cb7 HSO
  by_cases h1 : 1 < cnt
  · obtain ⟨k, rfl⟩ : ∃ k, cnt = k + 1 := ⟨cnt - 1, by omega⟩
    have hab : ∃ g, ab = some ⟨g, 0, none⟩ := by
      rcases HOWN8.out.2 with ⟨e, _⟩ | ⟨g, cap, cur, e, _⟩
      · exfalso
        injection e with e1 e2 e3
        omega
      · injection e with e1 e2 e3
        exact ⟨g, e1⟩
    obtain ⟨g, rfl⟩ := hab
    have HD := hidden (delete_any B g cp k bg w8 HOWN8.out (by omega) (by omega) hlen)
    have hcut : cutBg bg bf = bg.drop k := by unfold cutBg; rw [HCNT.out, if_pos h1]; rfl
    have HCUT := hidden hcut
    have hi1 : (1 : Int) < ((k + 1 : Nat) : Int) := by omega
    have hsb7 := HC8.out.sb
    clear hcut HCNT
    go_wp2_with fail
    refine HD.out.mono ?_
    rintro e w9 ⟨rfl, hown9, hg9⟩
    obtain ⟨hC9, hgB, hsg, hfz9⟩ := HC8.out.turnBegun c78 hg9 (by simp) hown9
    have HC9 := hidden hC9
    have HF9 := hidden ((HF8.out.grown hg9 (fun j e => by cases e; exact hgB)).set (p := ⟨L.sb, 7, none⟩) hsb7 (.slice (some ⟨g, 0, none⟩) (bg.length - k) cp))
    have c79 := hg9.cell c78 (by simpa using hsg)
    clear hC9 HD HC8 HF8 HOWN8 c78 hfz8 hown9 hg9
    go_wp2_with fail
    go_end0
    exact ⟨rfl, by rw [HCUT.out]; exact HC9.out, HF9.out⟩
  · have hcut : cutBg bg bf = bg := by unfold cutBg; rw [HCNT.out, if_neg h1]
    have HCUT := hidden hcut
    have hi1 : ¬ ((1 : Int) < (cnt : Int)) := by omega
    clear hcut HCNT
    go_wp2_with fail
    go_end0
    exact ⟨rfl, by rw [HCUT.out]; exact HC8.out, HF8.out⟩

end Go.Proofs.Qxb6609132a
