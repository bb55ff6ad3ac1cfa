/-
  (time.Time).After and (time.Time).Equal, on Times without a monotonic reading.
-/
import Derived.Test.Qxb6605633aAdd
namespace Go.Proofs.Qxb6605633a
open Go.RowKit

/-- A bool comes back; nothing old has turned. -/
def Told (w : World) (x : Bool) (e : Ending) (w' : World) : Prop := e = .returned (.bool x) ∧ Below w.heap.size w w'

theorem two_new (w : World) (o o' : Obj) : Below w.heap.size w ((w.alloc o).alloc o') := ((Below.refl _ _).alloc (Nat.le_refl _) _).alloc (by simp) _

set_option maxRecDepth 100000 in
set_option maxHeartbeats 1000000 in
theorem after_any (w : World) (a s b r : Int) (ha : 0 ≤ a) (ha2 : a < 1000000000) (hb : 0 ≤ b) (hb2 : b < 1000000000) :
    Calls Try.prog 22 #[.agg #[.int .u64 a, .int .i64 s, .pointer none], .agg #[.int .u64 b, .int .i64 r, .pointer none]] w fun e w' => Told w (decide (b + r * 1000000000 < a + s * 1000000000)) e w' := by
  have hs := and_small ha (by omega) hb (by omega)
  have hm := no_mono hs.1 hs.2
  clear hs
  by_cases c : r < s
  · have hd : decide (b + r * 1000000000 < a + s * 1000000000) = true := by simp; omega
    rw [hd]
    clear hd
    go_enter Try.func22, Try.ntmps22
    go_wp2_with fail
    refine (sec_any _ w.heap.size a s ⟨by simp, by simp, ha, ha2⟩).mono ?_
    rintro e w1 ⟨rfl, hw⟩
    subst hw
    go_wp2_with fail
    refine (sec_any _ (w.heap.size + 1) b r ⟨by simp, by simp, hb, hb2⟩).mono ?_
    rintro e w1 ⟨rfl, hw⟩
    subst hw
    go_wp2
    go_ret
    exact ⟨rfl, two_new _ _ _⟩
  by_cases c2 : s < r
  · have hd : decide (b + r * 1000000000 < a + s * 1000000000) = false := by simp; omega
    rw [hd]
    clear hd
    have hne : (s == r) = false := by simp; omega
    go_enter Try.func22, Try.ntmps22
    go_wp2_with fail
    refine (sec_any _ w.heap.size a s ⟨by simp, by simp, ha, ha2⟩).mono ?_
    rintro e w1 ⟨rfl, hw⟩
    subst hw
    go_wp2_with fail
    refine (sec_any _ (w.heap.size + 1) b r ⟨by simp, by simp, hb, hb2⟩).mono ?_
    rintro e w1 ⟨rfl, hw⟩
    subst hw
    go_wp2
    go_ret
    exact ⟨by simp; omega, two_new _ _ _⟩
  · have he : s = r := by omega
    subst he
    have hd : decide (b + s * 1000000000 < a + s * 1000000000) = decide (b < a) := by
      rw [decide_eq_decide]; omega
    rw [hd]
    clear hd
    go_enter Try.func22, Try.ntmps22
    go_wp2_with fail
    refine (sec_any _ w.heap.size a s ⟨by simp, by simp, ha, ha2⟩).mono ?_
    rintro e w1 ⟨rfl, hw⟩
    subst hw
    go_wp2_with fail
    refine (sec_any _ (w.heap.size + 1) b s ⟨by simp, by simp, hb, hb2⟩).mono ?_
    rintro e w1 ⟨rfl, hw⟩
    subst hw
    go_wp2_with fail
    refine (nsec_any _ w.heap.size a s ⟨by simp, by simp, ha, ha2⟩).mono ?_
    rintro e w1 ⟨rfl, hw⟩
    subst hw
    go_wp2_with fail
    refine (nsec_any _ (w.heap.size + 1) b s ⟨by simp, by simp, hb, hb2⟩).mono ?_
    rintro e w1 ⟨rfl, hw⟩
    subst hw
    go_wp2
    go_ret
    exact ⟨by simp, two_new _ _ _⟩

set_option maxRecDepth 100000 in
set_option maxHeartbeats 1000000 in
theorem equal_same (w : World) (a s : Int) (ha : 0 ≤ a) (ha2 : a < 1000000000) :
    Calls Try.prog 30 #[.agg #[.int .u64 a, .int .i64 s, .pointer none], .agg #[.int .u64 a, .int .i64 s, .pointer none]] w fun e w' => Told w true e w' := by
  have hs := and_small ha (by omega) ha (by omega)
  have hm := no_mono hs.1 hs.2
  clear hs
  go_enter Try.func30, Try.ntmps30
  go_wp2_with fail
  refine (sec_any _ w.heap.size a s ⟨by simp, by simp, ha, ha2⟩).mono ?_
  rintro e w1 ⟨rfl, hw⟩
  subst hw
  go_wp2_with fail
  refine (sec_any _ (w.heap.size + 1) a s ⟨by simp, by simp, ha, ha2⟩).mono ?_
  rintro e w1 ⟨rfl, hw⟩
  subst hw
  go_wp2_with fail
  refine (nsec_any _ w.heap.size a s ⟨by simp, by simp, ha, ha2⟩).mono ?_
  rintro e w1 ⟨rfl, hw⟩
  subst hw
  go_wp2_with fail
  refine (nsec_any _ (w.heap.size + 1) a s ⟨by simp, by simp, ha, ha2⟩).mono ?_
  rintro e w1 ⟨rfl, hw⟩
  subst hw
  go_wp2
  go_ret
  exact ⟨by simp, two_new _ _ _⟩

end Go.Proofs.Qxb6605633a
