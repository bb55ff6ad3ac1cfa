/-
  zzBytes_FnPlacesAppendKeepsEarlierPlaces: it returns some bool, and leaves the world alone.
-/
import Derived.Test.Qxb6604336aClone
namespace Go.Proofs.Qxb6604336a
open Go.RowKit

set_option maxHeartbeats 1000000 in
theorem bytes2_any (a : Option Addr) (n cap : Nat) (ss : List ByteArray) (a' : Option Addr) (m cap' : Nat) (ts : List ByteArray) (w : World)
    (hn : n ≤ 9223372036854775807) (hm : m ≤ 9223372036854775807) (hs : StrsAt w a n ss) (ht : StrsAt w a' m ts) :
    Calls Try.prog 10 #[.slice a n cap, .slice a' m cap'] w fun e w' => RetB e ∧ w' = w := by
  by_cases hbig : 1048576 < n
  · go_enter Try.func10, Try.ntmps10
    go_wp2
    go_ret
    exact ⟨⟨_, rfl⟩, rfl⟩
  · go_enter Try.func10, Try.ntmps10
    go_wp2
    go_loop [5, 6] (fun t i => ∃ k : Nat, k ≤ n ∧ i = .int .i64 k ∧ ∃ z, t = .int .i64 z) (fun _ i => n - (intOf i).toNat)
    case atStart => exact ⟨0, Nat.zero_le _, rfl, _, rfl⟩
    case round =>
      obtain ⟨k, hk, rfl, z, rfl⟩ := hrel
      by_cases hlt : k < n
      · obtain ⟨b, off, ha, hb, hc⟩ := hs (by omega)
        subst ha
        have hcell := hc k hlt
        clear hs ht hc
        go_wp2
        all_goals first
          | (go_ret; exact ⟨⟨_, rfl⟩, rfl⟩)
          | (go_round
             case rel => exact ⟨k + 1, by omega, by go_num, _, rfl⟩
             case measure => simp [intOf]; omega)
      · go_wp2
        all_goals first
          | (go_ret; exact ⟨⟨_, rfl⟩, rfl⟩)
          | skip
        go_loop [5, 7] (fun t i => ∃ k : Nat, k ≤ m ∧ i = .int .i64 k ∧ ∃ z, t = .int .i64 z) (fun _ i => m - (intOf i).toNat)
        case atStart => exact ⟨0, Nat.zero_le _, rfl, _, rfl⟩
        case round =>
          obtain ⟨k, hk, rfl, z, rfl⟩ := hrel
          by_cases hlt : k < m
          · obtain ⟨b, off, ha, hb, hc⟩ := ht (by omega)
            subst ha
            have hcell := hc k hlt
            clear hs ht hc
            go_wp2
            all_goals first
              | (go_ret; exact ⟨⟨_, rfl⟩, rfl⟩)
              | (go_round
                 case rel => exact ⟨k + 1, by omega, by go_num, _, rfl⟩
                 case measure => simp [intOf]; omega)
          · go_wp2
            go_ret
            exact ⟨⟨_, rfl⟩, rfl⟩

end Go.Proofs.Qxb6604336a
