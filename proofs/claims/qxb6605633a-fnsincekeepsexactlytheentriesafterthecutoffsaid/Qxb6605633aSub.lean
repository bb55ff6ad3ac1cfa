/-
  (time.Time).Sub and zzNanos.
-/
import Derived.Test.Qxb6605633aInst
namespace Go.Proofs.Qxb6605633a
open Go.RowKit

theorem bcell {W w1 : World} (hb : Below W.heap.size W w1) : (∀ b o, b < W.heap.size → w1.cell? ⟨b, o, none⟩ = W.cell? ⟨b, o, none⟩) ∧ (∀ b o, b < W.heap.size → w1.frozen? ⟨b, o, none⟩ = W.frozen? ⟨b, o, none⟩) :=
  ⟨fun b o h => hb.cell (p := ⟨b, o, none⟩) h, fun b o h => hb.frozen (p := ⟨b, o, none⟩) h⟩

/-- Nothing old has turned, and then again nothing that was there by then. -/
theorem below_then {w w1 w2 : World} (h : Below w.heap.size w w1) (k : Below w1.heap.size w1 w2) : Below w.heap.size w w2 := h.trans (k.mono h.size)

theorem wrap_back {x y D : Int} (h : x + y = D) (h1 : -9223372036854775808 ≤ D) (h2 : D ≤ 9223372036854775807) : wrap64 (wrap64 x + y) = D := by
  unfold wrap64; omega

theorem sub_uniq {a s b r D a2 s2 : Int} (h : (s - r) * 1000000000 + (a - b) = D) (h0 : 0 ≤ a) (h1 : a < 1000000000) (k0 : 0 ≤ a2) (k1 : a2 < 1000000000) (hs : a2 + s2 * 1000000000 = b + r * 1000000000 + D) : a = a2 ∧ s = s2 := by
  omega

/-- An int comes back; nothing old has turned. -/
def Num (w : World) (n : Int) (e : Ending) (w' : World) : Prop := e = .returned (.int .i64 n) ∧ Below w.heap.size w w'

set_option maxRecDepth 100000 in
set_option maxHeartbeats 1000000 in
theorem sub_any (w : World) (a s b r D : Int) (ha : 0 ≤ a) (ha2 : a < 1000000000) (hb : 0 ≤ b) (hb2 : b < 1000000000) (hs1 : -900000000000 ≤ s) (hs2 : s ≤ 900000000000) (hr1 : -900000000000 ≤ r) (hr2 : r ≤ 900000000000)
    (hD : (s - r) * 1000000000 + (a - b) = D) (hD1 : -9223372036854775808 ≤ D) (hD2 : D ≤ 9223372036854775807) :
    Calls Try.prog 23 #[.agg #[.int .u64 a, .int .i64 s, .pointer none], .agg #[.int .u64 b, .int .i64 r, .pointer none]] w fun e w' => Num w D e w' := by
  have hs := and_small ha (by omega) hb (by omega)
  have hm := no_mono hs.1 hs.2
  have hwr := wrap_back hD hD1 hD2
  have HD : Hid ((s - r) * 1000000000 + (a - b) = D) := hD
  clear hs hD
  go_enter Try.func23, Try.ntmps23
  go_wp2_with fail
  refine (sec_any _ w.heap.size a s ⟨by simp, by simp, ha, ha2⟩).mono ?_
  rintro e w1 ⟨rfl, hw⟩
  subst hw
  go_wp2_with fail
  refine (sec_any _ (w.heap.size + 1) b r ⟨by simp, by simp, hb, hb2⟩).mono ?_
  rintro e w1 ⟨rfl, hw⟩
  subst hw
  go_wp2_with fail
  refine (nsec_any _ w.heap.size a s ⟨by simp, by simp, ha, ha2⟩).mono ?_
  rintro e w1 ⟨rfl, hw⟩
  subst hw
  go_wp2_with fail
  refine (nsec_any _ (w.heap.size + 1) b r ⟨by simp, by simp, hb, hb2⟩).mono ?_
  rintro e w1 ⟨rfl, hw⟩
  subst hw
  go_wp2_with fail
  rw [hwr]
  clear hwr
  go_region_with (first
    | (go_at_call 21; refine (add_any _ b r D hb hb2 hr1 hr2 hD1 hD2).mono ?_; rintro e w2 ⟨a2, s2, rfl, p1, p2, psum, pb⟩; obtain ⟨rfl, rfl⟩ : a = a2 ∧ s = s2 := (sub_uniq HD.out ha ha2 p1 p2 psum); obtain ⟨hc, hf⟩ := bcell pb)
    | (go_at_call 30; refine (equal_same _ a s ha ha2).mono ?_; rintro e w3 ⟨rfl, qb⟩))
  all_goals
    have t1 := below_then (two_new w _ _).drew pb
    have t2 := below_then t1 qb
    clear hc hf pb qb t1
    go_wp2
    go_ret
    exact ⟨rfl, t2⟩

theorem nanos_D (n : Int) : (ib n - ib 0) * 1000000000 + (ia n - ia 0) = n := by
  have h1 := i_sum n
  have h2 := i_sum 0
  omega

set_option maxRecDepth 100000 in
set_option maxHeartbeats 1000000 in
theorem nanos_any (w : World) (n : Int) (h1 : -9223372036854775808 ≤ n) (h2 : n ≤ 9223372036854775807) :
    Calls Try.prog 20 #[.agg #[.int .u64 (ia n), .int .i64 (ib n), .pointer none]] w fun e w' => Num w n e w' := by
  have HD : Hid ((ib n - ib 0) * 1000000000 + (ia n - ia 0) = n) := nanos_D n
  have g1 := ia_lo n
  have g2 := ia_hi n
  have g3 := ib_lo h1
  have g4 := ib_hi h2
  have k1 := ia_lo 0
  have k2 := ia_hi 0
  have k3 := ib_lo (n := 0) (by omega)
  have k4 := ib_hi (n := 0) (by omega)
  generalize ia n = a at *
  generalize ib n = s at *
  go_enter Try.func20, Try.ntmps20
  go_wp2_with fail
  go_region_with (first
    | (go_at_call 18; refine (instant_any _ 0 (by omega) (by omega)).mono ?_; rintro e w2 ⟨rfl, pb⟩; obtain ⟨hc, hf⟩ := bcell pb)
    | (go_at_call 23; refine (sub_any _ a s (ia 0) (ib 0) n g1 g2 k1 k2 g3 g4 k3 k4 HD.out h1 h2).mono ?_; rintro e w3 ⟨rfl, qb⟩))
  all_goals
    have t1 := below_then ((Below.refl _ w).alloc (Nat.le_refl _) _).drew pb
    have t2 := below_then t1 qb
    clear hc hf pb qb t1
    go_wp2
    go_ret
    exact ⟨rfl, t2⟩

end Go.Proofs.Qxb6605633a
