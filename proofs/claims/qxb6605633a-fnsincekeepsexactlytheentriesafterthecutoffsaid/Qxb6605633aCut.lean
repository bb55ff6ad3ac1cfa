/-
  Plain facts on a log that is cut, and the two contracts in the form in which the laws use them.
-/
import Derived.Test.Qxb6605633aFields
namespace Go.Proofs.Qxb6605633a
open Go.RowKit

theorem wrap_lo (x : Int) : -9223372036854775808 ≤ wrap64 x := by unfold wrap64; omega
theorem wrap_hi (x : Int) : wrap64 x ≤ 9223372036854775807 := by unfold wrap64; omega

theorem Wide.drop {zs : List Int} (h : Wide zs) (k : Nat) : Wide (zs.drop k) := by
  intro j
  rw [show (zs.drop k).getD j 0 = zs.getD (k + j) 0 from by simp [List.getD, List.getElem?_drop]]
  exact h (k + j)

theorem getD_drop {zs : List Int} {n k j : Nat} (hk : k ≤ n) : (zs.drop k).getD j 0 = zs.getD (n - (n - k) + j) 0 := by
  rw [show n - (n - k) = k by omega]
  simp [List.getD, List.getElem?_drop]

/-- The sum of what is left is the total less what is gone. -/
theorem left_sum {zs us : List Int} {tot m : Int} {n : Nat} (hso : Pl.Sorted zs) (hls : zs.length = n) (hlu : us.length = n) (ht : wrap64 (Pl.isum us) = tot) :
    wrap64 (Pl.ksum zs us m n) = wrap64 (tot - Pl.isum (us.take (Pl.gone zs m))) := by
  have h1 := Pl.ksum_sorted (us := us) hso (by rw [hls, hlu]) m n (by omega) (by have := Pl.gone_le zs m; omega)
  rw [List.take_of_length_le (l := us) (i := n) (by omega)] at h1
  rw [← ht, wrap_sub]
  congr 1; omega

/-- A log cut at one cutoff, told by letters. -/
structure Cut (zs us : List Int) (n : Nat) (tot m : Int) (K : Nat) (T : Int) (zs' us' : List Int) : Prop where
  k : n - Pl.gone zs m = K
  z : zs.drop (Pl.gone zs m) = zs'
  u : us.drop (Pl.gone zs m) = us'
  t : wrap64 (tot - Pl.isum (us.take (Pl.gone zs m))) = T
  le : K ≤ n
  zat : ∀ j, j < K → zs'.getD j 0 = zs.getD (n - K + j) 0
  uat : ∀ j, j < K → us'.getD j 0 = us.getD (n - K + j) 0
  wide : Wide zs → Wide zs'
  cnt : Pl.cnt zs m n = K
  sum : wrap64 (Pl.ksum zs us m n) = T

theorem cut_of {zs us : List Int} {tot : Int} {n : Nat} (m : Int) (hso : Pl.Sorted zs) (hls : zs.length = n) (hlu : us.length = n) (ht : wrap64 (Pl.isum us) = tot) : ∃ K T zs' us', Cut zs us n tot m K T zs' us' := by
  have hg := Pl.gone_le zs m
  refine ⟨_, _, _, _, rfl, rfl, rfl, rfl, Nat.sub_le _ _, fun j _ => getD_drop (by omega), fun j _ => getD_drop (by omega), fun h => h.drop _, ?_, left_sum hso hls hlu ht⟩
  exact Pl.cnt_sorted hso m n (by omega)

/-- A log cut twice is the log cut at the later cutoff. -/
theorem log_twice {w : World} {g n : Nat} {zs us : List Int} {tot a b m : Int} (hm : (m = a ∧ b ≤ a) ∨ (m = b ∧ a < b))
    (h : LogAt w g (n - Pl.gone zs a - Pl.gone (zs.drop (Pl.gone zs a)) b) ((zs.drop (Pl.gone zs a)).drop (Pl.gone (zs.drop (Pl.gone zs a)) b)) ((us.drop (Pl.gone zs a)).drop (Pl.gone (zs.drop (Pl.gone zs a)) b))
      (wrap64 (wrap64 (tot - Pl.isum (us.take (Pl.gone zs a))) - Pl.isum ((us.drop (Pl.gone zs a)).take (Pl.gone (zs.drop (Pl.gone zs a)) b))))) :
    LogAt w g (n - Pl.gone zs m) (zs.drop (Pl.gone zs m)) (us.drop (Pl.gone zs m)) (wrap64 (tot - Pl.isum (us.take (Pl.gone zs m)))) := by
  have e := Pl.gone_twice zs a b m hm
  have e1 : n - Pl.gone zs a - Pl.gone (zs.drop (Pl.gone zs a)) b = n - Pl.gone zs m := by omega
  have e2 := Pl.isum_take_add us (Pl.gone zs a) (Pl.gone (zs.drop (Pl.gone zs a)) b)
  rw [e] at e2
  rw [List.drop_drop, List.drop_drop, e, e1, wrap_sub] at h
  rw [show tot - Pl.isum (us.take (Pl.gone zs m)) = tot - Pl.isum (us.take (Pl.gone zs a)) - Pl.isum ((us.drop (Pl.gone zs a)).take (Pl.gone (zs.drop (Pl.gone zs a)) b)) from by omega]
  exact h

/-- zzB1Kept, by letters. -/
theorem kept_cut (a : Option Addr) (n cap : Nat) (zs : List Int) (a' : Option Addr) (cap' : Nat) (us : List Int) (c tot T : Int) (K : Nat) (zs' us' : List Int) (w : World) (hn : n ≤ 131072)
    (hs : IntsAt w a n zs) (hu : IntsAt w a' n us) (hc : Cut zs us n tot c K T zs' us') :
    Calls Try.prog 10 #[.slice a n cap, .slice a' n cap', .int .i64 c] w fun e w' => e = .returned (.tuple #[.int .i64 (K : Int), .int .i64 T]) ∧ w' = w := by
  refine (kept_any a n cap zs a' cap' us c w hn hs hu).mono ?_
  rintro e w' ⟨rfl, hw⟩
  refine ⟨?_, hw⟩
  rw [hc.cnt, hc.sum]

end Go.Proofs.Qxb6605633a
