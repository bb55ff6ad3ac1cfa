/-
  A slice of strings that came in, as the walks want it.
-/
import Derived.Test.Qxb6604336aClone
import Derived.ProofKit
import Derived.OpenShut
import Derived.ShutString
import Derived.ChangeOld
import Derived.Below
namespace Go.Proofs.Qxb6604336a
open Go.ChangeShapes Go.WideShapes Go.ChangeAt Go.RowKit

theorem own : ownKnob Try.prog.godebug = none := by kernel_rfl
theorem laidOut : laidOutB Try.prog = true := by kernel_rfl
theorem Try.cells9 : Try.prog.cellsOf 9 = 1 := by kernel_rfl

theorem strs_in {H : Type} {enc : TypeId × Value → H} {W : World} {a : Option Addr} {len cap : Nat} {d : DataW H} {p : List MemPlace}
    (h : DataW.Trod enc Try.prog W 0 (fun _ => true) true 22 (.slice a len cap) d p) :
    ∃ ss : List ByteArray, len ≤ 9223372036854775807 ∧ StrsAt W a len ss ∧ ss.length = len ∧ ∀ s ∈ ss, s.size ≤ maxLen := by
  obtain ⟨fuel, hf⟩ := h
  rcases open_strings Try.underlying22 Try.underlying9 Try.cells9 hf with ⟨hcs, _⟩ | ⟨x, l, c, ss, hcs, _, hl, hm, hz, _, hcell, hws⟩
  · simp [Value.cells] at hcs
    obtain ⟨rfl, rfl, rfl⟩ := hcs
    exact ⟨[], Nat.zero_le _, fun h => absurd h (by omega), rfl, fun s hs => by cases hs⟩
  · simp [Value.cells] at hcs
    obtain ⟨rfl, rfl, rfl⟩ := hcs
    have hz' : ss.length = cap := by simpa using hz
    refine ⟨ss.take len, ?_, fun hp => ?_, by rw [List.length_take]; omega, fun s hs => hws s (List.mem_of_mem_take hs)⟩
    · unfold maxLen at hm; omega
    · obtain ⟨b, off, spot⟩ := x
      have hspot : spot = none := by simpa [Addr.add] using World.cell?_spot (hcell 0 (by omega))
      subst hspot
      have hc0 : W.cell? ⟨b, off, none⟩ = some (.string (ss.getD 0 ByteArray.empty)) := by simpa [Addr.add] using hcell 0 (by omega)
      refine ⟨b, off, rfl, World.block_lt_of_cell? W ⟨b, off, none⟩ hc0, fun j hj => ?_⟩
      rw [← Go.WideShapes.add_plain, hcell j (by omega)]
      simp [List.getD, hj]

end Go.Proofs.Qxb6604336a
