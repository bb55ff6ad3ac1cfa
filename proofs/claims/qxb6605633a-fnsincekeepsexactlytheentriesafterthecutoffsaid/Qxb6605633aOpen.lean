/-
  A slice of int64s that came in, as the walks want it.
-/
import Derived.Test.Qxb6605633aLog
import Derived.ProofKit
import Derived.OpenShut
import Derived.ShutString
import Derived.ChangeOld
import Derived.Below
namespace Go.Proofs.Qxb6605633a
open Go.ChangeShapes Go.WideShapes Go.ChangeAt Go.RowKit

theorem own : ownKnob Try.prog.godebug = none := by kernel_rfl
theorem laidOut : laidOutB Try.prog = true := by kernel_rfl
theorem Try.cells2 : Try.prog.cellsOf 2 = 1 := by kernel_rfl

theorem wf_bounds {n : Int} (h : (Lit.int .i64 n).wf = true) : -9223372036854775808 ≤ n ∧ n ≤ 9223372036854775807 := bounds_i64 h

theorem ints_in {H : Type} {enc : TypeId × Value → H} {W : World} {a : Option Addr} {len cap : Nat} {d : DataW H} {p : List MemPlace}
    (h : DataW.Trod enc Try.prog W 0 (fun _ => true) true 22 (.slice a len cap) d p) :
    ∃ zs : List Int, len ≤ 9223372036854775807 ∧ IntsAt W a len zs ∧ zs.length = len ∧ Wide zs := by
  obtain ⟨fuel, hf⟩ := h
  rcases open_ints Try.underlying22 Try.underlying2 Try.cells2 hf with ⟨hcs, _⟩ | ⟨x, l, c, zs, hcs, _, hl, hm, hz, _, hcell, hwz⟩
  · simp [Value.cells] at hcs
    obtain ⟨rfl, rfl, rfl⟩ := hcs
    exact ⟨[], Nat.zero_le _, fun h => absurd h (by omega), rfl, fun j => by simp⟩
  · simp [Value.cells] at hcs
    obtain ⟨rfl, rfl, rfl⟩ := hcs
    have hz' : zs.length = cap := by simpa using hz
    refine ⟨zs.take len, ?_, fun hp => ?_, by rw [List.length_take]; omega, fun j => ?_⟩
    · unfold maxLen at hm; omega
    · obtain ⟨b, off, ha, hc⟩ := ints_at hcell (by omega)
      subst ha
      refine ⟨b, off, rfl, World.block_lt_of_cell? W ⟨b, off + 0, none⟩ (hc 0 (by omega)), fun j hj => ?_⟩
      rw [hc j (by omega)]
      simp [List.getD, hj]
    · by_cases hj : j < (zs.take len).length
      · have hm : (zs.take len).getD j 0 ∈ zs := by
          have : (zs.take len).getD j 0 ∈ zs.take len := by simp only [List.getD, List.getElem?_eq_getElem hj, Option.getD_some]; exact List.getElem_mem hj
          exact List.mem_of_mem_take this
        exact wf_bounds (hwz _ hm)
      · rw [List.getD, List.getElem?_eq_none (by omega)]; simp

end Go.Proofs.Qxb6605633a
