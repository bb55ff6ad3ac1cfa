/-
  FnSinceTwiceIsSinceAtTheLaterCutoff: the walk.
-/
import Derived.Test.Qxb6605633aCut
namespace Go.Proofs.Qxb6605633a
open Go.RowKit

set_option maxRecDepth 100000 in
set_option maxHeartbeats 4000000 in
theorem twice_any (a0 : Option Addr) (n cap : Nat) (zs : List Int) (a1 : Option Addr) (n' cap' : Nat) (us : List Int) (tot a b : Int) (w : World) (hn : n ≤ 9223372036854775807) (hn' : n' ≤ 9223372036854775807)
    (hs : IntsAt w a0 n zs) (hu : IntsAt w a1 n' us) (hls : zs.length = n) (hlu : us.length = n') (hwz : Wide zs) (ht1 : -9223372036854775808 ≤ tot) (ht2 : tot ≤ 9223372036854775807)
    (ha1 : -9223372036854775808 ≤ a) (ha2 : a ≤ 9223372036854775807) (hb1 : -9223372036854775808 ≤ b) (hb2 : b ≤ 9223372036854775807) :
    Calls Try.prog 4 #[.slice a0 n cap, .slice a1 n' cap', .int .i64 tot, .int .i64 a, .int .i64 b] w fun e w' => e = .returned (.bool true) ∧ Below w.heap.size w w' := by
  have HLS : Hid (zs.length = n) := hls
  have HLU : Hid (us.length = n') := hlu
  clear hls hlu
  go_enter Try.func4, Try.ntmps4
  go_wp2_with fail
  refine (bytes5_any _ _ _ _ _ _ tot a b w hn hn').mono ?_
  rintro e w1 ⟨⟨x, rfl⟩, hw⟩
  subst hw
  cases x
  · go_wp2
    go_ret
    exact ⟨rfl, Below.refl _ _⟩
  by_cases hg1 : 131072 < n
  · go_wp2
    go_ret
    exact ⟨rfl, Below.refl _ _⟩
  by_cases hg2 : 131072 < n'
  · go_wp2
    go_ret
    exact ⟨rfl, Below.refl _ _⟩
  by_cases hg3 : (1048576 : Int) < 8 * (n : Int) + 8 * (n' : Int)
  · go_wp2
    go_ret
    exact ⟨rfl, Below.refl _ _⟩
  go_wp2_with fail
  refine (premise_any _ _ _ zs _ _ _ us tot _ (by omega) (by omega) hs hu HLS.out HLU.out).mono ?_
  rintro e w2 ⟨x, q, rfl, rfl, hp⟩
  cases x
  · go_wp2
    go_ret
    exact ⟨rfl, below_drewN' (Below.refl _ _) _⟩
  obtain ⟨hlen, hso, hsum⟩ := hp rfl
  have hnn : n = n' := by rw [← HLS.out, ← HLU.out]; exact hlen
  subst hnn
  clear hlen
  have HSO : Hid (Pl.Sorted zs) := hso
  have HSU : Hid (wrap64 (Pl.isum us) = tot) := hsum
  clear hso hsum hp
  have hb0 : Below w1.heap.size w1 (w1.drewN q) := below_drewN' (Below.refl _ _) _
  go_wp2_with fail
  refine (clone_any _ _ _ zs _ (by omega) (hs.drewN q)).mono ?_
  rintro e w3 ⟨c0, cp0, rfl, hs3, hb3⟩
  have hu3 := (hu.drewN q).below hb3
  go_wp2_with fail
  refine (clone_any _ _ _ us _ (by omega) hu3).mono ?_
  rintro e w4 ⟨c1, cp1, rfl, hu4, hb4⟩
  have hs4 := hs3.below hb4
  have hbw : Below w1.heap.size w1 w4 := below_then (below_then hb0 hb3) hb4
  clear hs hu hs3 hu3 hb3 hb4 hb0
  by_cases hab : a < b
  · go_wp2_with fail
    refine (log_any _ _ _ zs _ _ us tot _ (by omega) hs4 hu4 hwz).mono ?_
    rintro e w5 ⟨gl, rfl, hL5, hb5⟩
    have hs5 := hs4.below hb5
    have hu5 := hu4.below hb5
    go_wp2_with fail
    refine (zzsince_any _ gl n zs us tot a hL5 (by omega) HLS.out HLU.out ht1 ht2 ha1 ha2).mono ?_
    rintro e w6 ⟨ga, rfl, hA6, hb6⟩
    have hL6 := hL5.below hb6
    have hs6 := hs5.below hb6
    have hu6 := hu5.below hb6
    go_wp2_with fail
    refine (zzsince_any _ ga _ _ _ _ b hA6 (by omega) (by rw [List.length_drop, HLS.out]) (by rw [List.length_drop, HLU.out]) (wrap_lo _) (wrap_hi _) hb1 hb2).mono ?_
    rintro e w7 ⟨gb, rfl, hB7, hb7⟩
    have hL7 := hL6.below hb7
    have hs7 := hs6.below hb7
    have hu7 := hu6.below hb7
    have hR7 := log_twice (m := b) (.inr ⟨rfl, hab⟩) hB7
    go_wp2_with fail
    refine (zzsince_any _ gl n zs us tot b hL7 (by omega) HLS.out HLU.out ht1 ht2 (by omega) (by omega)).mono ?_
    rintro e w8 ⟨gm, rfl, hM8, hb8⟩
    have hR8 := hR7.below hb8
    have hs8 := hs7.below hb8
    have hu8 := hu7.below hb8
    have hbw8 := below_then (below_then (below_then (below_then hbw hb5) hb6) hb7) hb8
    obtain ⟨K, T, zs', us', hcut⟩ := cut_of (us := us) (tot := tot) b HSO.out HLS.out HLU.out HSU.out
    have HC : Hid (Cut zs us n tot b K T zs' us') := hcut
    rw [hcut.k, hcut.z, hcut.u, hcut.t] at hR8 hM8
    have hKn := hcut.le
    have hwz' := hcut.wide hwz
    clear hcut hL5 hL6 hL7 hA6 hB7 hR7 hs4 hs5 hs6 hs7 hu4 hu5 hu6 hu7 hb5 hb6 hb7 hb8 hbw
    go_wp2_with fail
    refine (kept_cut _ n _ zs _ _ us b tot T K zs' us' _ (by omega) hs8 hu8 HC.out).mono ?_
    rintro e w9 ⟨rfl, hw9⟩
    subst hw9
    go_wp2_with fail
    refine (len_any _ gb K zs' us' T hR8).mono ?_
    rintro e w9 ⟨rfl, hw9⟩
    subst hw9
    go_wp2_with fail
    refine (len_any _ gm K zs' us' T hM8).mono ?_
    rintro e w9 ⟨rfl, hw9⟩
    subst hw9
    go_wp2_with fail
    refine (total_any _ gb K zs' us' T hR8).mono ?_
    rintro e w9 ⟨rfl, hw9⟩
    subst hw9
    go_wp2_with fail
    refine (total_any _ gm K zs' us' T hM8).mono ?_
    rintro e w9 ⟨rfl, hw9⟩
    subst hw9
    go_wp2_with fail
    refine (ats_any _ gb K zs' us' T hR8 (by omega) hwz').mono ?_
    rintro e x1 ⟨d1, dc1, rfl, hi1, hx1⟩
    go_wp2_with fail
    refine (suffix_any _ K _ zs' _ n _ zs _ (by omega) hKn hi1 (hs8.below hx1) HC.out.zat).mono ?_
    rintro e x2 ⟨q2, rfl, rfl⟩
    have hy2 : Below w9.heap.size w9 (x1.drewN q2) := below_drewN' hx1 q2
    have hM2 := hM8.below hy2
    have hR2 := hR8.below hy2
    have hs2 := hs8.below hy2
    have hu2 := hu8.below hy2
    have hbw2 := below_then hbw8 hy2
    clear hM8 hR8 hs8 hu8 hbw8 hy2 hi1 hx1
    go_wp2_with fail
    refine (ats_any _ gm K zs' us' T hM2 (by omega) hwz').mono ?_
    rintro e x3 ⟨d3, dc3, rfl, hi3, hx3⟩
    go_wp2_with fail
    refine (suffix_any _ K _ zs' _ n _ zs _ (by omega) hKn hi3 (hs2.below hx3) HC.out.zat).mono ?_
    rintro e x4 ⟨q4, rfl, rfl⟩
    have hy4 := below_drewN' hx3 q4
    have hM4 := hM2.below hy4
    have hR4 := hR2.below hy4
    have hu4 := hu2.below hy4
    have hbw4 := below_then hbw2 hy4
    clear hM2 hR2 hs2 hu2 hbw2 hy4 hi3 hx3
    go_wp2_with fail
    refine (units_any _ gb K zs' us' T hR4 (by omega)).mono ?_
    rintro e x5 ⟨d5, dc5, rfl, hi5, hx5⟩
    go_wp2_with fail
    refine (suffix_any _ K _ us' _ n _ us _ (by omega) hKn hi5 (hu4.below hx5) HC.out.uat).mono ?_
    rintro e x6 ⟨q6, rfl, rfl⟩
    have hy6 := below_drewN' hx5 q6
    have hM6 := hM4.below hy6
    have hu6 := hu4.below hy6
    have hbw6 := below_then hbw4 hy6
    clear hM4 hR4 hu4 hbw4 hy6 hi5 hx5
    go_wp2_with fail
    refine (units_any _ gm K zs' us' T hM6 (by omega)).mono ?_
    rintro e x7 ⟨d7, dc7, rfl, hi7, hx7⟩
    go_wp2_with fail
    refine (suffix_any _ K _ us' _ n _ us _ (by omega) hKn hi7 (hu6.below hx7) HC.out.uat).mono ?_
    rintro e x8 ⟨q8, rfl, rfl⟩
    have hbw9 := below_then hbw6 (below_drewN' hx7 q8)
    go_wp2
    go_ret
    exact ⟨rfl, hbw9⟩
  · have hba : b ≤ a := by omega
    go_wp2_with fail
    refine (log_any _ _ _ zs _ _ us tot _ (by omega) hs4 hu4 hwz).mono ?_
    rintro e w5 ⟨gl, rfl, hL5, hb5⟩
    have hs5 := hs4.below hb5
    have hu5 := hu4.below hb5
    go_wp2_with fail
    refine (zzsince_any _ gl n zs us tot a hL5 (by omega) HLS.out HLU.out ht1 ht2 ha1 ha2).mono ?_
    rintro e w6 ⟨ga, rfl, hA6, hb6⟩
    have hL6 := hL5.below hb6
    have hs6 := hs5.below hb6
    have hu6 := hu5.below hb6
    go_wp2_with fail
    refine (zzsince_any _ ga _ _ _ _ b hA6 (by omega) (by rw [List.length_drop, HLS.out]) (by rw [List.length_drop, HLU.out]) (wrap_lo _) (wrap_hi _) hb1 hb2).mono ?_
    rintro e w7 ⟨gb, rfl, hB7, hb7⟩
    have hL7 := hL6.below hb7
    have hs7 := hs6.below hb7
    have hu7 := hu6.below hb7
    have hR7 := log_twice (m := a) (.inl ⟨rfl, hba⟩) hB7
    go_wp2_with fail
    refine (zzsince_any _ gl n zs us tot a hL7 (by omega) HLS.out HLU.out ht1 ht2 (by omega) (by omega)).mono ?_
    rintro e w8 ⟨gm, rfl, hM8, hb8⟩
    have hR8 := hR7.below hb8
    have hs8 := hs7.below hb8
    have hu8 := hu7.below hb8
    have hbw8 := below_then (below_then (below_then (below_then hbw hb5) hb6) hb7) hb8
    obtain ⟨K, T, zs', us', hcut⟩ := cut_of (us := us) (tot := tot) a HSO.out HLS.out HLU.out HSU.out
    have HC : Hid (Cut zs us n tot a K T zs' us') := hcut
    rw [hcut.k, hcut.z, hcut.u, hcut.t] at hR8 hM8
    have hKn := hcut.le
    have hwz' := hcut.wide hwz
    clear hcut hL5 hL6 hL7 hA6 hB7 hR7 hs4 hs5 hs6 hs7 hu4 hu5 hu6 hu7 hb5 hb6 hb7 hb8 hbw
    go_wp2_with fail
    refine (kept_cut _ n _ zs _ _ us a tot T K zs' us' _ (by omega) hs8 hu8 HC.out).mono ?_
    rintro e w9 ⟨rfl, hw9⟩
    subst hw9
    go_wp2_with fail
    refine (len_any _ gb K zs' us' T hR8).mono ?_
    rintro e w9 ⟨rfl, hw9⟩
    subst hw9
    go_wp2_with fail
    refine (len_any _ gm K zs' us' T hM8).mono ?_
    rintro e w9 ⟨rfl, hw9⟩
    subst hw9
    go_wp2_with fail
    refine (total_any _ gb K zs' us' T hR8).mono ?_
    rintro e w9 ⟨rfl, hw9⟩
    subst hw9
    go_wp2_with fail
    refine (total_any _ gm K zs' us' T hM8).mono ?_
    rintro e w9 ⟨rfl, hw9⟩
    subst hw9
    go_wp2_with fail
    refine (ats_any _ gb K zs' us' T hR8 (by omega) hwz').mono ?_
    rintro e x1 ⟨d1, dc1, rfl, hi1, hx1⟩
    go_wp2_with fail
    refine (suffix_any _ K _ zs' _ n _ zs _ (by omega) hKn hi1 (hs8.below hx1) HC.out.zat).mono ?_
    rintro e x2 ⟨q2, rfl, rfl⟩
    have hy2 : Below w9.heap.size w9 (x1.drewN q2) := below_drewN' hx1 q2
    have hM2 := hM8.below hy2
    have hR2 := hR8.below hy2
    have hs2 := hs8.below hy2
    have hu2 := hu8.below hy2
    have hbw2 := below_then hbw8 hy2
    clear hM8 hR8 hs8 hu8 hbw8 hy2 hi1 hx1
    go_wp2_with fail
    refine (ats_any _ gm K zs' us' T hM2 (by omega) hwz').mono ?_
    rintro e x3 ⟨d3, dc3, rfl, hi3, hx3⟩
    go_wp2_with fail
    refine (suffix_any _ K _ zs' _ n _ zs _ (by omega) hKn hi3 (hs2.below hx3) HC.out.zat).mono ?_
    rintro e x4 ⟨q4, rfl, rfl⟩
    have hy4 := below_drewN' hx3 q4
    have hM4 := hM2.below hy4
    have hR4 := hR2.below hy4
    have hu4 := hu2.below hy4
    have hbw4 := below_then hbw2 hy4
    clear hM2 hR2 hs2 hu2 hbw2 hy4 hi3 hx3
    go_wp2_with fail
    refine (units_any _ gb K zs' us' T hR4 (by omega)).mono ?_
    rintro e x5 ⟨d5, dc5, rfl, hi5, hx5⟩
    go_wp2_with fail
    refine (suffix_any _ K _ us' _ n _ us _ (by omega) hKn hi5 (hu4.below hx5) HC.out.uat).mono ?_
    rintro e x6 ⟨q6, rfl, rfl⟩
    have hy6 := below_drewN' hx5 q6
    have hM6 := hM4.below hy6
    have hu6 := hu4.below hy6
    have hbw6 := below_then hbw4 hy6
    clear hM4 hR4 hu4 hbw4 hy6 hi5 hx5
    go_wp2_with fail
    refine (units_any _ gm K zs' us' T hM6 (by omega)).mono ?_
    rintro e x7 ⟨d7, dc7, rfl, hi7, hx7⟩
    go_wp2_with fail
    refine (suffix_any _ K _ us' _ n _ us _ (by omega) hKn hi7 (hu6.below hx7) HC.out.uat).mono ?_
    rintro e x8 ⟨q8, rfl, rfl⟩
    have hbw9 := below_then hbw6 (below_drewN' hx7 q8)
    go_wp2
    go_ret
    exact ⟨rfl, hbw9⟩

end Go.Proofs.Qxb6605633a
