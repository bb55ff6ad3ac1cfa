/-
  package time's small methods on a Time that bears no monotonic reading.
-/
import Derived.Test.Qxb6605633aBits
namespace Go.Proofs.Qxb6605633a
open Go.RowKit

/-- Block g holds a Time: its nanoseconds a, its seconds s, no place. -/
structure TAt (w : World) (g : Nat) (a s : Int) : Prop where
  wall : w.cell? ⟨g, 0, none⟩ = some (.int .u64 a)
  ext : w.cell? ⟨g, 1, none⟩ = some (.int .i64 s)
  lo : 0 ≤ a
  hi : a < 1000000000

set_option maxHeartbeats 400000 in
theorem nsec_any (w : World) (g : Nat) (a s : Int) (h : TAt w g a s) :
    Calls Try.prog 25 #[.pointer (some ⟨g, 0, none⟩)] w fun e w' => e = .returned (.int .i32 a) ∧ w' = w := by
  obtain ⟨h0, h1, hlo, hhi⟩ := h
  have hm := and_mask hlo (by omega)
  go_enter Try.func25, Try.ntmps25
  go_wp2
  go_ret
  exact ⟨rfl, rfl⟩

set_option maxHeartbeats 400000 in
theorem sec_any (w : World) (g : Nat) (a s : Int) (h : TAt w g a s) :
    Calls Try.prog 28 #[.pointer (some ⟨g, 0, none⟩)] w fun e w' => e = .returned (.int .i64 s) ∧ w' = w := by
  obtain ⟨h0, h1, hlo, hhi⟩ := h
  have hm := no_mono hlo (by omega)
  go_enter Try.func28, Try.ntmps28
  go_wp2
  go_ret
  exact ⟨rfl, rfl⟩

set_option maxHeartbeats 400000 in
theorem addSec_any (w : World) (g : Nat) (a s d : Int) (h : TAt w g a s) (hf : w.frozen? ⟨g, 1, none⟩ = false) (hs1 : -1000000000000 ≤ s) (hs2 : s ≤ 1000000000000) (hd1 : -1000000000000 ≤ d) (hd2 : d ≤ 1000000000000) :
    Calls Try.prog 26 #[.pointer (some ⟨g, 0, none⟩), .int .i64 d] w fun e w' => e = .returned (.tuple #[]) ∧ w' = w.setCell ⟨g, 1, none⟩ (.int .i64 (s + d)) := by
  obtain ⟨h0, h1, hlo, hhi⟩ := h
  have hm := no_mono hlo (by omega)
  by_cases hd : 0 < d
  · have hgt : decide (s < s + d) = true := by simp; omega
    have hgt2 : decide (0 < d) = true := by simp; omega
    go_enter Try.func26, Try.ntmps26
    go_wp2
    go_end0
    exact ⟨rfl, rfl⟩
  · have hgt : decide (s < s + d) = false := by simp; omega
    have hgt2 : decide (0 < d) = false := by simp; omega
    go_enter Try.func26, Try.ntmps26
    go_wp2
    go_end0
    exact ⟨rfl, rfl⟩

end Go.Proofs.Qxb6605633a
