/-
  zzInstant and zzNanos; (time.Time).Sub.
-/
import Derived.Test.Qxb6605633aAfter
import Derived.Deep.RegionWith
namespace Go.Proofs.Qxb6605633a
open Go.RowKit

/-- The nanoseconds and the seconds of the instant n. -/
def ia (n : Int) : Int := (4611686018427387904 + n) % 1000000000
def ib (n : Int) : Int := (4611686018427387904 + n) / 1000000000
theorem ia_lo (n : Int) : 0 ≤ ia n := by unfold ia; omega
theorem ia_hi (n : Int) : ia n < 1000000000 := by unfold ia; omega
theorem i_sum (n : Int) : ia n + ib n * 1000000000 = 4611686018427387904 + n := by unfold ia ib; omega
theorem i_uniq {a s n : Int} (h0 : 0 ≤ a) (h1 : a < 1000000000) (h : a + s * 1000000000 = 4611686018427387904 + n) : a = ia n ∧ s = ib n := by
  unfold ia ib; omega
theorem ib_lo {n : Int} (h : -9223372036854775808 ≤ n) : -900000000000 ≤ ib n := by unfold ib; omega
theorem ib_hi {n : Int} (h : n ≤ 9223372036854775807) : ib n ≤ 900000000000 := by unfold ib; omega

/-- The instant n comes back. -/
def Inst (w : World) (n : Int) (e : Ending) (w' : World) : Prop :=
  e = .returned (.agg #[.int .u64 (ia n), .int .i64 (ib n), .pointer none]) ∧ Below w.heap.size w w'

set_option maxRecDepth 100000 in
set_option maxHeartbeats 1000000 in
theorem instant_any (w : World) (n : Int) (h1 : -9223372036854775808 ≤ n) (h2 : n ≤ 9223372036854775807) :
    Calls Try.prog 18 #[.int .i64 n] w fun e w' => Inst w n e w' := by
  go_enter Try.func18, Try.ntmps18
  go_wp2_with fail
  refine (add_any _ 0 0 4611686018427387904 (by omega) (by omega) (by omega) (by omega) (by omega) (by omega)).mono ?_
  rintro e w1 ⟨a1, s1, rfl, ha1, ha2, hsum, hb1⟩
  obtain ⟨rfl, rfl⟩ : a1 = ia 0 ∧ s1 = ib 0 := i_uniq ha1 ha2 (by omega)
  clear hsum
  go_wp2_with fail
  refine (add_any _ (ia 0) (ib 0) n (ia_lo 0) (ia_hi 0) (ib_lo (by omega)) (ib_hi (by omega)) h1 h2).mono ?_
  rintro e w2 ⟨a2, s2, rfl, hb1', hb2', hsum, hb2⟩
  obtain ⟨rfl, rfl⟩ : a2 = ia n ∧ s2 = ib n := i_uniq hb1' hb2' (by have := i_sum 0; omega)
  clear hsum hb1' hb2' ha1 ha2
  have hz : w.heap.size < w1.heap.size := by have := hb1.size; simp at this; omega
  have hz2 : w.heap.size < w2.heap.size := Nat.lt_of_lt_of_le hz hb2.size
  have c0 : w2.cell? ⟨w.heap.size, 0, none⟩ = some (.int .u64 0) := by rw [hb2.cell (p := ⟨w.heap.size, 0, none⟩) hz, hb1.cell (p := ⟨w.heap.size, 0, none⟩) (by simp)]; simp
  have c1 : w2.cell? ⟨w.heap.size, 1, none⟩ = some (.int .i64 0) := by rw [hb2.cell (p := ⟨w.heap.size, 1, none⟩) hz, hb1.cell (p := ⟨w.heap.size, 1, none⟩) (by simp)]; simp
  have c2 : w2.cell? ⟨w.heap.size, 2, none⟩ = some (.pointer none) := by rw [hb2.cell (p := ⟨w.heap.size, 2, none⟩) hz, hb1.cell (p := ⟨w.heap.size, 2, none⟩) (by simp)]; simp
  have f0 : w2.frozen? ⟨w.heap.size, 0, none⟩ = false := by rw [hb2.frozen (p := ⟨w.heap.size, 0, none⟩) hz, hb1.frozen (p := ⟨w.heap.size, 0, none⟩) (by simp)]; simp
  have f1 : w2.frozen? ⟨w.heap.size, 1, none⟩ = false := by rw [hb2.frozen (p := ⟨w.heap.size, 1, none⟩) hz, hb1.frozen (p := ⟨w.heap.size, 1, none⟩) (by simp)]; simp
  have f2 : w2.frozen? ⟨w.heap.size, 2, none⟩ = false := by rw [hb2.frozen (p := ⟨w.heap.size, 2, none⟩) hz, hb1.frozen (p := ⟨w.heap.size, 2, none⟩) (by simp)]; simp
  have hbw : Below w.heap.size w w2 := (((Below.refl _ _).alloc (Nat.le_refl _) _).trans (hb1.mono (by simp))).trans (hb2.mono (Nat.le_of_lt hz))
  clear hb1 hb2
  go_wp2
  refine bodyPost_ret (v := .agg #[.int .u64 (ia n), .int .i64 (ib n), .pointer none]) (by simp [results, Try.results18, go_sem, c0, c1, c2]) rfl ⟨rfl, ?_⟩
  exact ((hbw.setCell (Nat.le_refl _) _).setCell (Nat.le_refl _) _).setCell (Nat.le_refl _) _

end Go.Proofs.Qxb6605633a
