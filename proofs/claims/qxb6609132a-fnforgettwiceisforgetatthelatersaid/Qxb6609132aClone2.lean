import Derived.Test.Qxb6609132aReads
namespace Go.Proofs.Qxb6609132a
open Go.RowKit

theorem owns_base {w : World} {B B' : Nat} {e : TypeId} {s : Nat} {v : Value} {n : Nat} {xs : List Value} (h : w.ownsRow B e s v n xs) (hB : B' ≤ B) : w.ownsRow B' e s v n xs := by
  refine ⟨h.1, ?_⟩
  rcases h.2 with h2 | ⟨g, cap, cur, hv, hb, r⟩
  · exact .inl h2
  · exact .inr ⟨g, cap, cur, hv, Nat.le_trans hB hb, r⟩

/-- What was written lies in new memory: for the old memory nothing has turned. -/
theorem grown_new {a b : World} {k : Nat} (h : a.grownBy b (some k)) (hk : a.heap.size ≤ k) : a.grownBy b none :=
  ⟨h.os, h.tape, h.output, h.size, fun i hi _ => h.block i hi (fun e => by injection e with e; omega)⟩
theorem grown_new2 {a b c : World} {k : Nat} (h0 : a.grownBy b none) (h : b.grownBy c (some k)) (hk : a.heap.size ≤ k) : a.grownBy c none :=
  ⟨h.os.trans h0.os, h.tape.trans h0.tape, h.output.trans h0.output, Nat.le_trans h0.size h.size,
    fun i hi hn => (h.block i (Nat.lt_of_lt_of_le hi h0.size) (fun e => by injection e with e; omega)).trans (h0.block i hi hn)⟩

theorem owns_shape {w : World} {B : Nat} {e : TypeId} {s : Nat} {v : Value} {n : Nat} {xs : List Value} (h : w.ownsRow B e s v n xs) (hn : 0 < n) : ∃ g c, v = .slice (some ⟨g, 0, none⟩) n c := by
  rcases h.2 with ⟨_, h2⟩ | ⟨g, cap, cur, hv, _⟩
  · omega
  · exact ⟨g, cap, hv⟩

theorem strings_oneCell (ss : List ByteArray) : ∀ u ∈ ss.map Value.string, u.oneCell' = true := by
  intro u hu
  obtain ⟨s, _, rfl⟩ := List.mem_map.1 hu
  rfl

set_option maxHeartbeats 400000 in
theorem clone57 (b off : Nat) (ss : List ByteArray) (cap : Nat) (w : World) (h0 : 0 < ss.length) (hm : ss.length ≤ 1048576) (hc : ∀ i, i < ss.length → w.cell? ⟨b, off + i, none⟩ = some (.string (ss.getD i ByteArray.empty))) :
    Calls Try.prog 57 #[.slice (some ⟨b, off, none⟩) ss.length cap] w fun e w' => ∃ g c, e = .returned (.slice (some ⟨g, 0, none⟩) ss.length c) ∧
      w'.ownsRow w.heap.size 9 1 (.slice (some ⟨g, 0, none⟩) ss.length c) ss.length (ss.map Value.string) ∧ w.grownBy w' none := by
  have hn := fun (w : World) => Lib.run_eql_slice_nil (P := Try.prog) w 22 9 (some ⟨b, off, none⟩) ss.length cap 0 0 Try.underlying22
  obtain ⟨i0, hi, hz0, hz1, hz2⟩ := info_parts Try.info9
  have hown : (w.alloc (Obj.cells #[] 9)).ownsRow w.heap.size 9 1 (.slice (some ⟨w.heap.size, 0, none⟩) 0 0) 0 [] := World.ownsRow_made w #[] 0 (Nat.le_refl _) (Nat.zero_le _) rfl
  have hnews : ∀ j u, (ss.map Value.string)[j]? = some u → (w.alloc (Obj.cells #[] 9)).cell? ((⟨b, off, none⟩ : Addr).add j) = some u := by
    intro j u hu
    rw [Addr.add_lit]
    rw [List.getElem?_map, Option.map_eq_some_iff] at hu
    obtain ⟨y, hy, rfl⟩ := hu
    have hj := (List.getElem?_eq_some_iff.1 hy).1
    have h1 := hc j hj
    have h2 : ss.getD j ByteArray.empty = y := by simp [List.getD, hy]
    rw [h2] at h1
    exact (World.grownBy_alloc w _ none).cell h1 (by simp)
  have HO : Hid _ := hown
  have HN : Hid _ := hnews
  have HS : Hid (∀ v (w' : World), w'.ownsRow w.heap.size 9 1 v (0 + ss.length) ([] ++ ss.map Value.string) → ∃ g c, v = .slice (some ⟨g, 0, none⟩) ss.length c) := fun v w' h => by
    have := owns_shape h (by omega)
    simpa using this
  clear hown hnews hc
  go_enter Try.func57, Try.ntmps57
  go_wp2_with (at_builtin; refine wpList_append_own _ rfl _ _ 22 rfl w.heap.size 9 i0 (.string ByteArray.empty) 1 16 Try.underlying22 hi hz0 hz1 hz2 rfl (by decide) _ 0 [] rfl HO.out ⟨b, off, none⟩ ss.length cap (ss.map Value.string) rfl (by simp) HN.out (strings_oneCell ss) (by unfold maxLen; omega) (by omega) (by simp) ?_; intro v' w1 hown1 hgr1 _; obtain ⟨g, c, hv⟩ := HS.out v' w1 hown1; rw [hv]; rw [hv] at hown1)
  go_ret
  refine ⟨g, c, rfl, by simpa using hown1, ?_⟩
  exact grown_new2 (World.grownBy_alloc w _ none) hgr1 (Nat.le_refl _)

end Go.Proofs.Qxb6609132a
