import Derived.Test.Qxb6609132aBytes
import Derived.ProofKit
import Derived.OpenShut
import Derived.ShutString
import Derived.ChangeOld
import Derived.Below
import Derived.SliceStrings
namespace Go.Proofs.Qxb6609132a
open Go.ChangeShapes Go.WideShapes Go.ChangeAt Go.RowKit

theorem add_none {a : Addr} {i : Nat} (h : a.spot = none) : a.add i = ⟨a.block, a.off + i, none⟩ := by
  obtain ⟨b, o, s⟩ := a
  simp only at h
  subst h
  unfold Addr.add
  split
  · rename_i e; subst e; rfl
  · rfl

theorem spot_none {w : World} {a : Addr} {v : Value} (h : w.cell? a = some v) : a.spot = none := by
  unfold World.cell? at h
  split at h
  · split at h
    · cases h
    · rename_i hs; simpa using hs
  · cases h

/-- A slice of strings that came in, as the walks take it. -/
theorem open_strs22 {H : Type} {enc : TypeId × Value → H} {w : World} {base : Nat} {spare : Nat → Bool} {held : Bool} {a : Option Addr} {len cap fuel : Nat} {x : DataW H × List MemPlace}
    (h : DataW.trod enc Try.prog w base spare held fuel 22 [.slice a len cap] = some x) :
    ∃ ss : List ByteArray, ss.length = len ∧ (a = none → ss = []) ∧ Strs w a ss ∧ (∀ s ∈ ss, s.size ≤ maxLen) ∧ len ≤ maxLen := by
  rcases open_strings Try.underlying22 Try.underlying9 (by kernel_rfl) h with ⟨hcs, _⟩ | ⟨y, l, c, ss, hcs, _, hl, hm, hz, _, hcell, hws⟩
  · simp at hcs
    obtain ⟨rfl, rfl, rfl⟩ := hcs
    exact ⟨[], rfl, fun _ => rfl, .inl rfl, by simp, Nat.zero_le _⟩
  · simp at hcs
    obtain ⟨rfl, rfl, rfl⟩ := hcs
    have hlen : len ≤ ss.length := by rw [hz]; split <;> omega
    have hl' : (ss.take len).length = len := by simp; omega
    refine ⟨ss.take len, hl', fun e => (by cases e), ?_, fun s hs => hws s (List.mem_of_mem_take hs), by omega⟩
    by_cases h0 : len = 0
    · left; rw [h0]; simp
    · right
      have hsp := spot_none (hcell 0 (by omega))
      have hy : y.add 0 = y := by simp [Addr.add]
      rw [hy] at hsp
      refine ⟨y.block, y.off, ?_, fun i hi => ?_⟩
      · obtain ⟨b, o, s⟩ := y
        simp only at hsp
        subst hsp
        rfl
      · rw [hl'] at hi
        have := hcell i (by omega)
        rw [add_none hsp] at this
        rw [this]
        simp [List.getD, hi]

end Go.Proofs.Qxb6609132a
