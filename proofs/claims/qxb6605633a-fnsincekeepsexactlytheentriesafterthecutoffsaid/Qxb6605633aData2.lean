/-
  What is kept after a cutoff; whether one slice is a suffix of another.
-/
import Derived.Test.Qxb6605633aData
namespace Go.Proofs.Qxb6605633a
open Go.RowKit

/-- How many are after the cutoff, and the sum of their units. -/
def Kept (w : World) (zs us : List Int) (c : Int) (n : Nat) (e : Ending) (w' : World) : Prop :=
  e = .returned (.tuple #[.int .i64 (Pl.cnt zs c n : Nat), .int .i64 (wrap64 (Pl.ksum zs us c n))]) ∧ w' = w

set_option maxRecDepth 100000 in
set_option maxHeartbeats 1000000 in
theorem kept_any (a : Option Addr) (n cap : Nat) (zs : List Int) (a' : Option Addr) (cap' : Nat) (us : List Int) (c : Int) (w : World) (hn : n ≤ 131072)
    (hs : IntsAt w a n zs) (hu : IntsAt w a' n us) :
    Calls Try.prog 10 #[.slice a n cap, .slice a' n cap', .int .i64 c] w fun e w' => Kept w zs us c n e w' := by
  go_enter Try.func10, Try.ntmps10
  go_wp2_with fail
  go_loop [8, 9, 10] (fun t v i => ∃ k : Nat, k ≤ n ∧ i = .int .i64 k ∧ t = .int .i64 (Pl.cnt zs c k : Nat) ∧ v = .int .i64 (wrap64 (Pl.ksum zs us c k))) (fun _ _ i => n - (intOf i).toNat)
  case atStart => exact ⟨0, Nat.zero_le _, rfl, rfl, by show _ = Value.int .i64 (wrap64 0); rw [wrap_zero]⟩
  case round =>
    obtain ⟨k, hk, rfl, rfl, rfl⟩ := hrel
    by_cases hlt : k < n
    · obtain ⟨b, off, ha, hb, hc⟩ := hs (by omega)
      obtain ⟨b2, off2, ha2, hb2, hc2⟩ := hu (by omega)
      subst ha
      subst ha2
      have hcz := hc k hlt
      have hcu := hc2 k hlt
      have hcl := Pl.cnt_le zs c k
      have HC : Hid (Pl.cnt zs c (k + 1) = Pl.cnt zs c k + if c < zs.getD k 0 then 1 else 0) := rfl
      have HK : Hid (Pl.ksum zs us c (k + 1) = Pl.ksum zs us c k + if c < zs.getD k 0 then us.getD k 0 else 0) := rfl
      generalize zs.getD k 0 = z at hcz HC HK
      generalize us.getD k 0 = u at hcu HK
      clear hs hu hc hc2
      by_cases hz : c < z
      · go_wp2
        go_round
        case rel => exact ⟨k + 1, by omega, by go_num, by rw [HC.out, if_pos hz]; go_num, by rw [HK.out, if_pos hz, wrap_add]⟩
        case measure => simp [intOf]; omega
      · go_wp2
        go_round
        case rel => exact ⟨k + 1, by omega, by go_num, by rw [HC.out, if_neg hz]; rfl, by rw [HK.out, if_neg hz, Int.add_zero]⟩
        case measure => simp [intOf]; omega
    · have hk' : n = k := by omega
      subst hk'
      clear hs hu
      go_wp2
      go_ret2
      exact ⟨rfl, rfl⟩

/-- True comes back; the world has at most drawn. -/
def Yes (w : World) (e : Ending) (w' : World) : Prop := ∃ q, e = .returned (.bool true) ∧ w' = w.drewN q

set_option maxRecDepth 100000 in
set_option maxHeartbeats 1000000 in
theorem suffix_any (a : Option Addr) (k cap : Nat) (gs : List Int) (a' : Option Addr) (n cap' : Nat) (zs : List Int) (w : World) (hn : n ≤ 131072) (hk : k ≤ n)
    (hs : IntsAt w a k gs) (hu : IntsAt w a' n zs) (he : ∀ j, j < k → gs.getD j 0 = zs.getD (n - k + j) 0) :
    Calls Try.prog 14 #[.slice a k cap, .slice a' n cap', .int .i64 (k : Int)] w fun e w' => Yes w e w' := by
  go_enter Try.func14, Try.ntmps14
  go_wp2_with fail
  go_loopw [8] (fun i wr => ∃ j : Nat, j ≤ k ∧ i = .int .i64 j ∧ ∃ q, wr = w.drewN q) (fun i _ => k - (intOf i).toNat)
  case atStart => exact ⟨0, Nat.zero_le _, rfl, 0, rfl⟩
  case round =>
    obtain ⟨j, hj, rfl, q, rfl⟩ := hrel
    by_cases hlt : j < k
    · obtain ⟨b, off, ha, hb, hc⟩ := hs (by omega)
      obtain ⟨b2, off2, ha2, hb2, hc2⟩ := hu (by omega)
      subst ha
      subst ha2
      have hcz := hc j hlt
      have hcu : w.cell? ⟨b2, off2 + (n - k + j), none⟩ = some (.int .i64 (gs.getD j 0)) := by rw [he j hlt]; exact hc2 (n - k + j) (by omega)
      generalize gs.getD j 0 = z at hcz hcu
      have hi1 : (j : Int) < (k : Int) := by omega
      have hi2 : (n : Int) - (k : Int) + (j : Int) < (n : Int) := by omega
      have hi3 : 0 ≤ (n : Int) - (k : Int) + (j : Int) := by omega
      clear hs hu hc hc2 he
      go_wp2_with fail
      go_quiet (fail)
      go_wp2
      go_roundw
      case rel => exact ⟨j + 1, by omega, by go_num, _, rfl⟩
      case measure => simp [intOf]; omega
    · clear hs hu he
      go_wp2
      go_ret
      exact ⟨_, rfl, rfl⟩

end Go.Proofs.Qxb6605633a
