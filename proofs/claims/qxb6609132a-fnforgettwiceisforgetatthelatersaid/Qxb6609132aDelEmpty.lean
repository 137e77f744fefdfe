import Derived.Test.Qxb6609132aDel
namespace Go.Proofs.Qxb6609132a
open Go.RowKit Go.Maps

theorem row86 : (86 : TypeId) < Try.prog.types.size := of_decide_eq_true (by kernel_rfl)
theorem wide86 : (match Try.prog.underlying 86 with | some (.array _ _) | some (.struct _) => true | _ => false) = true := by kernel_rfl
set_option maxRecDepth 100000 in
theorem law86 : Keyed Try.prog 86 := Keyed.of_law (deep_law_laid laidOut (m := 3) (by omega) row86 (by kernel_rfl) wide86)

set_option maxRecDepth 20000 in
set_option maxHeartbeats 1000000 in
theorem delEmpty44 (b n : Nat) (fv : Value) (w : World) (hown : w.ownsMap Try.prog 36 rawElem b n (.map [])) :
    Calls Try.prog 44 #[.map (some b), fv] w fun e w' => e = .returned (.tuple #[]) ∧ w.grownBy w' none := by
  go_enter Try.func44, Try.ntmps44
  go_wp2_with (first
    | (at_range; refine wpList_range_own _ rfl _ 63 rfl 36 78 law36 Try.underlying63 rawElem b n _ rfl hown ?_; intro w0 hrg0 hg0 hs0))
  go_frame
  go_loopw [8] (fun _ wr => wr.ranges Try.prog 36 rawElem b w.heap.size n (.map []) (Maps.has (.map [])) (Maps.size (.map [])) ∧ w.grownBy wr none) (fun _ wr => 0)
  case atStart => exact ⟨hrg0, hg0⟩
  case round =>
    obtain ⟨hrg, hgw⟩ := hrel
    go_wp2_with (first
      | (at_next; refine wpList_next_ranges _ rfl _ rfl 36 law36 rawElem id id (fun key _ _ => ⟨key, rfl⟩) (fun v _ _ => ⟨v, rfl⟩) b w.heap.size n _ _ _ rfl hrg ?_ ?_))
    · intro _ hl0
      go_wp2_with fail
      go_end0
      exact ⟨rfl, hgw⟩
    · intro x c kl yd yp w1 cnt1 hkey hlx
      simp [Maps.has] at hlx

set_option maxRecDepth 20000 in
set_option maxHeartbeats 1000000 in
theorem delEmpty48 (b n : Nat) (fv : Value) (w : World) (hown : w.ownsMap Try.prog 9 rawElem b n (.map [])) :
    Calls Try.prog 48 #[.map (some b), fv] w fun e w' => e = .returned (.tuple #[]) ∧ w.grownBy w' none := by
  go_enter Try.func48, Try.ntmps48
  go_wp2_with (first
    | (at_range; refine wpList_range_own _ rfl _ 64 rfl 9 29 law9 Try.underlying64 rawElem b n _ rfl hown ?_; intro w0 hrg0 hg0 hs0))
  go_frame
  go_loopw [8] (fun _ wr => wr.ranges Try.prog 9 rawElem b w.heap.size n (.map []) (Maps.has (.map [])) (Maps.size (.map [])) ∧ w.grownBy wr none) (fun _ wr => 0)
  case atStart => exact ⟨hrg0, hg0⟩
  case round =>
    obtain ⟨hrg, hgw⟩ := hrel
    go_wp2_with (first
      | (at_next; refine wpList_next_ranges _ rfl _ rfl 9 law9 rawElem id id (fun key _ _ => ⟨key, rfl⟩) (fun v _ _ => ⟨v, rfl⟩) b w.heap.size n _ _ _ rfl hrg ?_ ?_))
    · intro _ hl0
      go_wp2_with fail
      go_end0
      exact ⟨rfl, hgw⟩
    · intro x c kl yd yp w1 cnt1 hkey hlx
      simp [Maps.has] at hlx

set_option maxRecDepth 20000 in
set_option maxHeartbeats 1000000 in
theorem delEmpty50 (b n : Nat) (fv : Value) (w : World) (hown : w.ownsMap Try.prog 86 rawElem b n (.map [])) :
    Calls Try.prog 50 #[.map (some b), fv] w fun e w' => e = .returned (.tuple #[]) ∧ w.grownBy w' none := by
  go_enter Try.func50, Try.ntmps50
  go_wp2_with (first
    | (at_range; refine wpList_range_own _ rfl _ 65 rfl 86 87 law86 Try.underlying65 rawElem b n _ rfl hown ?_; intro w0 hrg0 hg0 hs0))
  go_frame
  go_loopw [8] (fun _ wr => wr.ranges Try.prog 86 rawElem b w.heap.size n (.map []) (Maps.has (.map [])) (Maps.size (.map [])) ∧ w.grownBy wr none) (fun _ wr => 0)
  case atStart => exact ⟨hrg0, hg0⟩
  case round =>
    obtain ⟨hrg, hgw⟩ := hrel
    go_wp2_with (first
      | (at_next; refine wpList_next_ranges _ rfl _ rfl 86 law86 rawElem id id (fun key _ _ => ⟨key, rfl⟩) (fun v _ _ => ⟨v, rfl⟩) b w.heap.size n _ _ _ rfl hrg ?_ ?_))
    · intro _ hl0
      go_wp2_with fail
      go_end0
      exact ⟨rfl, hgw⟩
    · intro x c kl yd yp w1 cnt1 hkey hlx
      simp [Maps.has] at hlx

end Go.Proofs.Qxb6609132a
