/-
  FnSinceKeepsExactlyTheEntriesAfterTheCutoff: the walk.
-/
import Derived.Test.Qxb6605633aCut
namespace Go.Proofs.Qxb6605633a
open Go.RowKit

set_option maxRecDepth 100000 in
set_option maxHeartbeats 4000000 in
theorem keeps_any (a0 : Option Addr) (n cap : Nat) (zs : List Int) (a1 : Option Addr) (n' cap' : Nat) (us : List Int) (tot c : Int) (w : World) (hn : n ≤ 9223372036854775807) (hn' : n' ≤ 9223372036854775807)
    (hs : IntsAt w a0 n zs) (hu : IntsAt w a1 n' us) (hls : zs.length = n) (hlu : us.length = n') (hwz : Wide zs) (ht1 : -9223372036854775808 ≤ tot) (ht2 : tot ≤ 9223372036854775807)
    (hc1 : -9223372036854775808 ≤ c) (hc2 : c ≤ 9223372036854775807) :
    Calls Try.prog 3 #[.slice a0 n cap, .slice a1 n' cap', .int .i64 tot, .int .i64 c] w fun e w' => e = .returned (.bool true) ∧ Below w.heap.size w w' := by
  have HLS : Hid (zs.length = n) := hls
  have HLU : Hid (us.length = n') := hlu
  clear hls hlu
  go_enter Try.func3, Try.ntmps3
  go_wp2_with fail
  refine (bytes4_any _ _ _ _ _ _ tot c w hn hn').mono ?_
  rintro e w1 ⟨⟨x, rfl⟩, hw⟩
  subst hw
  cases x
  · go_wp2
    go_ret
    exact ⟨rfl, Below.refl _ _⟩
  by_cases hg1 : 131072 < n
  · go_wp2
    go_ret
    exact ⟨rfl, Below.refl _ _⟩
  by_cases hg2 : 131072 < n'
  · go_wp2
    go_ret
    exact ⟨rfl, Below.refl _ _⟩
  by_cases hg3 : (1048576 : Int) < 8 * (n : Int) + 8 * (n' : Int)
  · go_wp2
    go_ret
    exact ⟨rfl, Below.refl _ _⟩
  go_wp2_with fail
  refine (premise_any _ _ _ zs _ _ _ us tot _ (by omega) (by omega) hs hu HLS.out HLU.out).mono ?_
  rintro e w2 ⟨x, q, rfl, rfl, hp⟩
  cases x
  · go_wp2
    go_ret
    exact ⟨rfl, below_drewN' (Below.refl _ _) _⟩
  obtain ⟨hlen, hso, hsum⟩ := hp rfl
  have hnn : n = n' := by rw [← HLS.out, ← HLU.out]; exact hlen
  subst hnn
  clear hlen
  have HSO : Hid (Pl.Sorted zs) := hso
  have HSU : Hid (wrap64 (Pl.isum us) = tot) := hsum
  clear hso hsum hp
  have hb0 : Below w1.heap.size w1 (w1.drewN q) := below_drewN' (Below.refl _ _) _
  go_wp2_with fail
  refine (clone_any _ _ _ zs _ (by omega) (hs.drewN q)).mono ?_
  rintro e w3 ⟨c0, cp0, rfl, hs3, hb3⟩
  have hu3 := (hu.drewN q).below hb3
  go_wp2_with fail
  refine (clone_any _ _ _ us _ (by omega) hu3).mono ?_
  rintro e w4 ⟨c1, cp1, rfl, hu4, hb4⟩
  have hs4 := hs3.below hb4
  have hbw : Below w1.heap.size w1 w4 := below_then (below_then hb0 hb3) hb4
  clear hs hu hs3 hu3 hb3 hb4 hb0
  go_wp2_with fail
  refine (log_any _ _ _ zs _ _ us tot _ (by omega) hs4 hu4 hwz).mono ?_
  rintro e w5 ⟨gl, rfl, hL5, hb5⟩
  have hs5 := hs4.below hb5
  have hu5 := hu4.below hb5
  go_wp2_with fail
  refine (zzsince_any _ gl n zs us tot c hL5 (by omega) HLS.out HLU.out ht1 ht2 hc1 hc2).mono ?_
  rintro e w6 ⟨gm, rfl, hM6, hb6⟩
  have hL6 := hL5.below hb6
  have hs6 := hs5.below hb6
  have hu6 := hu5.below hb6
  have hbw6 := below_then (below_then hbw hb5) hb6
  obtain ⟨K, T, zs', us', hcut⟩ := cut_of (us := us) (tot := tot) c HSO.out HLS.out HLU.out HSU.out
  have HC : Hid (Cut zs us n tot c K T zs' us') := hcut
  rw [hcut.k, hcut.z, hcut.u, hcut.t] at hM6
  have hKn := hcut.le
  have hwz' := hcut.wide hwz
  have HZN : Hid (∀ j, j < n → zs.getD j 0 = zs.getD (n - n + j) 0) := fun j _ => by rw [Nat.sub_self, Nat.zero_add]
  have HUN : Hid (∀ j, j < n → us.getD j 0 = us.getD (n - n + j) 0) := fun j _ => by rw [Nat.sub_self, Nat.zero_add]
  clear hcut hL5 hs4 hs5 hu4 hu5 hb5 hb6 hbw
  go_wp2_with fail
  refine (kept_cut _ n _ zs _ _ us c tot T K zs' us' _ (by omega) hs6 hu6 HC.out).mono ?_
  rintro e w9 ⟨rfl, hw9⟩
  subst hw9
  go_wp2_with fail
  refine (len_any _ gm K zs' us' T hM6).mono ?_
  rintro e w9 ⟨rfl, hw9⟩
  subst hw9
  go_wp2_with fail
  refine (total_any _ gm K zs' us' T hM6).mono ?_
  rintro e w9 ⟨rfl, hw9⟩
  subst hw9
  go_wp2_with fail
  refine (gen_any _ gm K zs' us' T hM6).mono ?_
  rintro e w9 ⟨rfl, hw9⟩
  subst hw9
  go_wp2_with fail
  refine (ats_any _ gm K zs' us' T hM6 (by omega) hwz').mono ?_
  rintro e x1 ⟨d1, dc1, rfl, hi1, hx1⟩
  go_wp2_with fail
  refine (suffix_any _ K _ zs' _ n _ zs _ (by omega) hKn hi1 (hs6.below hx1) HC.out.zat).mono ?_
  rintro e x2 ⟨q2, rfl, rfl⟩
  have hy2 : Below w9.heap.size w9 (x1.drewN q2) := below_drewN' hx1 q2
  have hM2 := hM6.below hy2
  have hL2 := hL6.below hy2
  have hs2 := hs6.below hy2
  have hu2 := hu6.below hy2
  have hbw2 := below_then hbw6 hy2
  clear hM6 hL6 hs6 hu6 hbw6 hy2 hi1 hx1
  go_wp2_with fail
  refine (units_any _ gm K zs' us' T hM2 (by omega)).mono ?_
  rintro e x3 ⟨d3, dc3, rfl, hi3, hx3⟩
  go_wp2_with fail
  refine (suffix_any _ K _ us' _ n _ us _ (by omega) hKn hi3 (hu2.below hx3) HC.out.uat).mono ?_
  rintro e x4 ⟨q4, rfl, rfl⟩
  have hy4 := below_drewN' hx3 q4
  have hL4 := hL2.below hy4
  have hs4 := hs2.below hy4
  have hu4 := hu2.below hy4
  have hbw4 := below_then hbw2 hy4
  clear hM2 hL2 hs2 hu2 hbw2 hy4 hi3 hx3
  go_wp2_with fail
  refine (total_any _ gl n zs us tot hL4).mono ?_
  rintro e x5 ⟨rfl, hx5⟩
  subst hx5
  go_wp2_with fail
  refine (ats_any _ gl n zs us tot hL4 (by omega) hwz).mono ?_
  rintro e x6 ⟨d6, dc6, rfl, hi6, hx6⟩
  go_wp2_with fail
  refine (suffix_any _ n _ zs _ n _ zs _ (by omega) (Nat.le_refl _) hi6 (hs4.below hx6) HZN.out).mono ?_
  rintro e x7 ⟨q7, rfl, rfl⟩
  have hy7 := below_drewN' hx6 q7
  have hL7 := hL4.below hy7
  have hu7 := hu4.below hy7
  have hbw7 := below_then hbw4 hy7
  clear hL4 hs4 hu4 hbw4 hy7 hi6 hx6
  go_wp2_with fail
  refine (units_any _ gl n zs us tot hL7 (by omega)).mono ?_
  rintro e x8 ⟨d8, dc8, rfl, hi8, hx8⟩
  go_wp2_with fail
  refine (suffix_any _ n _ us _ n _ us _ (by omega) (Nat.le_refl _) hi8 (hu7.below hx8) HUN.out).mono ?_
  rintro e x9 ⟨q9, rfl, rfl⟩
  have hbw9 := below_then hbw7 (below_drewN' hx8 q9)
  go_wp2
  go_ret
  exact ⟨rfl, hbw9⟩

end Go.Proofs.Qxb6605633a
