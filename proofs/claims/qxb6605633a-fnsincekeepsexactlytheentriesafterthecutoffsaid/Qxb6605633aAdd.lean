/-
  (time.Time).Add, on a Time without a monotonic reading.
-/
import Derived.Test.Qxb6605633aTime
namespace Go.Proofs.Qxb6605633a
open Go.RowKit

/-- A Time as a value. -/
def tv (a s : Int) : Value := .agg #[.int .u64 a, .int .i64 s, .pointer none]

/-- What Add leaves. -/
def Added (w : World) (a s d : Int) (e : Ending) (w' : World) : Prop :=
  ∃ a' s', e = .returned (.agg #[.int .u64 a', .int .i64 s', .pointer none]) ∧ 0 ≤ a' ∧ a' < 1000000000 ∧ a' + s' * 1000000000 = a + s * 1000000000 + d ∧ Below w.heap.size w w'

theorem tdiv_facts (d : Int) (h1 : -9223372036854775808 ≤ d) (h2 : d ≤ 9223372036854775807) :
    d.tmod 1000000000 + d.tdiv 1000000000 * 1000000000 = d ∧ -1000000000 < d.tmod 1000000000 ∧ d.tmod 1000000000 < 1000000000 ∧ -10000000000 ≤ d.tdiv 1000000000 ∧ d.tdiv 1000000000 ≤ 10000000000 := by
  have e := Int.tmod_add_mul_tdiv d 1000000000
  have m1 := Int.tmod_lt_of_pos d (show (0:Int) < 1000000000 by omega)
  have m2 : -1000000000 < d.tmod 1000000000 := by
    rcases Int.le_total 0 d with h | h
    · have := Int.tmod_nonneg 1000000000 h; omega
    · have := Int.tmod_lt_of_pos (-d) (show (0:Int) < 1000000000 by omega)
      rw [Int.neg_tmod] at this; omega
  refine ⟨by omega, m2, m1, by omega, by omega⟩

set_option maxRecDepth 100000 in
set_option maxHeartbeats 1000000 in
theorem add_any (w : World) (a s d : Int) (ha : 0 ≤ a) (ha2 : a < 1000000000) (hs1 : -900000000000 ≤ s) (hs2 : s ≤ 900000000000) (hd1 : -9223372036854775808 ≤ d) (hd2 : d ≤ 9223372036854775807) :
    Calls Try.prog 21 #[.agg #[.int .u64 a, .int .i64 s, .pointer none], .int .i64 d] w fun e w' => Added w a s d e w' := by
  obtain ⟨hd, r1, r2, q1, q2⟩ := tdiv_facts d hd1 hd2
  have HD : Hid (d.tmod 1000000000 + d.tdiv 1000000000 * 1000000000 = d) := hd
  clear hd
  go_enter Try.func21, Try.ntmps21
  go_wp2_with fail
  refine (nsec_any _ w.heap.size a s ⟨by simp, by simp, ha, ha2⟩).mono ?_
  rintro e w1 ⟨rfl, hw⟩
  subst hw
  have hm := andNot_mask ha (by omega)
  by_cases c1 : 1000000000 ≤ a + d.tmod 1000000000
  · have ho := zero_or (b := a + d.tmod 1000000000 - 1000000000) (by omega) (by omega)
    have hmo := no_mono (a := a + d.tmod 1000000000 - 1000000000) (by omega) (by omega)
    go_wp2_with fail
    refine (addSec_any _ w.heap.size (a + d.tmod 1000000000 - 1000000000) s (d.tdiv 1000000000 + 1) ⟨by simp, by simp, by omega, by omega⟩ (by simp) (by omega) (by omega) (by omega) (by omega)).mono ?_
    rintro e w2 ⟨rfl, rfl⟩
    go_wp2
    refine bodyPost_ret (v := tv (a + d.tmod 1000000000 - 1000000000) (s + (d.tdiv 1000000000 + 1))) (by simp [results, Try.results21, go_sem, tv]) rfl ⟨_, _, rfl, by omega, by omega, ?_, ?_⟩
    · have := HD.out; omega
    · exact ((Below.refl _ _).alloc (Nat.le_refl _) _).alloc (by simp) _
  by_cases c2 : a + d.tmod 1000000000 < 0
  · have ho := zero_or (b := a + d.tmod 1000000000 + 1000000000) (by omega) (by omega)
    have hmo := no_mono (a := a + d.tmod 1000000000 + 1000000000) (by omega) (by omega)
    go_wp2_with fail
    refine (addSec_any _ w.heap.size (a + d.tmod 1000000000 + 1000000000) s (d.tdiv 1000000000 - 1) ⟨by simp, by simp, by omega, by omega⟩ (by simp) (by omega) (by omega) (by omega) (by omega)).mono ?_
    rintro e w2 ⟨rfl, rfl⟩
    go_wp2
    refine bodyPost_ret (v := tv (a + d.tmod 1000000000 + 1000000000) (s + (d.tdiv 1000000000 - 1))) (by simp [results, Try.results21, go_sem, tv]) rfl ⟨_, _, rfl, by omega, by omega, ?_, ?_⟩
    · have := HD.out; omega
    · exact ((Below.refl _ _).alloc (Nat.le_refl _) _).alloc (by simp) _
  · have ho := zero_or (b := a + d.tmod 1000000000) (by omega) (by omega)
    have hmo := no_mono (a := a + d.tmod 1000000000) (by omega) (by omega)
    go_wp2_with fail
    refine (addSec_any _ w.heap.size (a + d.tmod 1000000000) s (d.tdiv 1000000000) ⟨by simp, by simp, by omega, by omega⟩ (by simp) (by omega) (by omega) (by omega) (by omega)).mono ?_
    rintro e w2 ⟨rfl, rfl⟩
    go_wp2
    refine bodyPost_ret (v := tv (a + d.tmod 1000000000) (s + (d.tdiv 1000000000))) (by simp [results, Try.results21, go_sem, tv]) rfl ⟨_, _, rfl, by omega, by omega, ?_, ?_⟩
    · have := HD.out; omega
    · exact ((Below.refl _ _).alloc (Nat.le_refl _) _).alloc (by simp) _

end Go.Proofs.Qxb6605633a
