/-
  FnPlacesFirstPlaceOfEachID: the walk.
-/
import Derived.Test.Qxb6604336aMap
import Derived.Deep.QuietTactic
import Derived.BigQuiet
namespace Go.Proofs.Qxb6604336a
open Go.RowKit Go.Maps Go.WideMaps

theorem below_drewN' {B : Nat} {w w' : World} (h : Below B w w') (q : Nat) : Below B w (w'.drewN q) := ⟨h.os, h.tape, h.output, h.size, h.block⟩

theorem ba_ext {s t : ByteArray} (h : s.data.toList = t.data.toList) : s = t := by
  cases s; cases t; congr; exact Array.toList_inj.1 h

/-- What a round finds: the first place v of the k-th string, and what the count of firsts does. -/
theorem round_fact {ss : List ByteArray} {k : Nat} (hk : k < ss.length) : ∃ v s, ss.getD k ByteArray.empty = s ∧ ss.getD v ByteArray.empty = s ∧ v < ss.length ∧ (keysOf ss).idxOf s.data.toList = v ∧ s.data.toList ∈ keysOf ss ∧
    ((v = k ∧ Pl.firsts (keysOf ss) (k + 1) = Pl.firsts (keysOf ss) k + 1) ∨ (v < k ∧ Pl.firsts (keysOf ss) (k + 1) = Pl.firsts (keysOf ss) k)) := by
  have hat := keysOf_at hk
  have hmem := Pl.mem_of_at hat
  have hle := Pl.idxOf_le hat
  have hv := Pl.at_idxOf hmem
  refine ⟨(keysOf ss).idxOf (ss.getD k ByteArray.empty).data.toList, _, rfl, ?_, by omega, rfl, hmem, ?_⟩
  · rw [keysOf_at (by omega)] at hv
    exact ba_ext (Option.some.inj hv)
  · cases hc : ((keysOf ss).take k).contains (ss.getD k ByteArray.empty).data.toList
    · exact .inl ⟨Pl.idxOf_eq_of_new hat hc, Pl.firsts_new hat hc⟩
    · exact .inr ⟨Pl.idxOf_lt_of_old hc, Pl.firsts_old hat hc⟩

theorem keysOf_length (ss : List ByteArray) : (keysOf ss).length = ss.length := by simp [keysOf]

theorem Places.full {ss : List ByteArray} {n : Nat} {D : DataW Unit} (h : Places (keysOf ss) n D) (hl : ss.length = n) {x : List UInt8} (hx : x ∈ keysOf ss) :
    Maps.has D (.string x) = true ∧ D.atKey (.string x) (i64d 0) = i64d ((keysOf ss).idxOf x : Nat) := by
  have e : (keysOf ss).take n = keysOf ss := List.take_of_length_le (by rw [keysOf_length]; omega)
  exact ⟨by rw [h.has, e]; exact List.contains_iff_mem.2 hx, h.val x (by rw [e]; exact hx)⟩

theorem i64d_inj {a b : Int} (h : i64d a = i64d b) : a = b := by
  simpa using h

set_option maxRecDepth 100000 in
set_option maxHeartbeats 1000000 in
theorem law1_some (b0 off0 n cap : Nat) (ss : List ByteArray) (w : World) (hlen : n ≤ 9223372036854775807) (hpos : 0 < n) (hb0 : b0 < w.heap.size)
    (hc0 : ∀ j, j < n → w.cell? ⟨b0, off0 + j, none⟩ = some (.string (ss.getD j ByteArray.empty))) (hl : ss.length = n) (hsz : ∀ s ∈ ss, s.size ≤ maxLen) :
    Calls Try.prog 3 #[.slice (some ⟨b0, off0, none⟩) n cap] w fun e w' => e = .returned (.bool true) ∧ Below w.heap.size w w' := by
  have hs : StrsAt w (some ⟨b0, off0, none⟩) n ss := fun _ => ⟨b0, off0, rfl, hb0, hc0⟩
  have HL : Hid (ss.length = n) := hl
  clear hl
  by_cases hbig : 65536 < n
  · go_enter Try.func3, Try.ntmps3
    go_wp2_with fail
    refine (bytes1_any _ _ _ ss w hlen hs).mono ?_
    rintro e w1 ⟨⟨x, rfl⟩, hw⟩
    subst hw
    cases x
    · go_wp2
      go_ret
      exact ⟨rfl, Below.refl _ _⟩
    · go_wp2
      go_ret
      exact ⟨rfl, Below.refl _ _⟩
  · go_enter Try.func3, Try.ntmps3
    go_wp2_with fail
    refine (bytes1_any _ _ _ ss w hlen hs).mono ?_
    rintro e w1 ⟨⟨x, rfl⟩, hw⟩
    subst hw
    cases x
    · go_wp2
      go_ret
      exact ⟨rfl, Below.refl _ _⟩
    · go_wp2_with fail
      refine (total_any _ _ _ ss _ hlen hs).mono ?_
      rintro e w ⟨⟨x, rfl⟩, hw⟩
      subst hw
      by_cases hx : 1048576 < x
      · go_wp2
        go_ret
        exact ⟨rfl, Below.refl _ _⟩
      · go_wp2_with fail
        refine (clone_any _ _ _ ss _ (by omega) hs).mono ?_
        rintro e w1 ⟨a1, cap1, rfl, hs1, hb1⟩
        obtain ⟨b, off, ha, hb, hc⟩ := hs1 hpos
        subst ha
        clear hs hc0 hb0
        go_wp2_with fail
        refine (plan_any _ _ _ ss _ (by omega) hs1).mono ?_
        rintro e w2 ⟨gp, rfl, hp2, hb2⟩
        go_wp2_with fail
        refine (zzplaces_any _ _ _ ss _ (by omega) HL.out hsz hp2).mono ?_
        rintro e w3 ⟨g, D, rfl, hg, hown, hpl, hb3⟩
        have hbw : Below w.heap.size w w3 := hb1.trans ((hb2.mono hb1.size).trans (hb3.mono (Nat.le_trans hb1.size hb2.size)))
        have hcell : ∀ j, j < n → w3.cell? ⟨b, off + j, none⟩ = some (.string (ss.getD j ByteArray.empty)) := fun j hj =>
          (hb3.cell (p := ⟨b, off + j, none⟩) (Nat.lt_of_lt_of_le hb hb2.size)).trans ((hb2.cell (p := ⟨b, off + j, none⟩) hb).trans (hc j hj))
        clear hp2 hs1 hc hb1 hb2 hb3 hg
        go_wp2_with fail
        go_loopw [4, 5] (fun t i wr => ∃ k : Nat, k ≤ n ∧ i = .int .i64 k ∧ t = .int .i64 (Pl.firsts (keysOf ss) k : Nat) ∧ ∃ q, wr = w3.drewN q)
          (fun _ i _ => n - (intOf i).toNat)
        case atStart => exact ⟨0, Nat.zero_le _, rfl, rfl, 0, rfl⟩
        case round =>
          obtain ⟨k, hk, rfl, rfl, q, rfl⟩ := hrel
          by_cases hlt : k < n
          · obtain ⟨v, s, hsk, hsv, hvl, hix, hmem, hcase⟩ := round_fact (ss := ss) (k := k) (by rw [HL.out]; exact hlt)
            obtain ⟨hh, hval⟩ := hpl.full HL.out hmem
            rw [hix] at hval
            have hkey0 : keyOf Try.prog 9 (.string s) = some (.string s.data.toList) := by rw [← hsk]; exact key_ok hsz k (by rw [HL.out]; exact hlt)
            have hck : w3.cell? ⟨b, off + k, none⟩ = some (.string s) := by rw [← hsk]; exact hcell k hlt
            have hcv : w3.cell? ⟨b, off + v, none⟩ = some (.string s) := by rw [← hsv]; exact hcell v (by rw [← HL.out]; exact hvl)
            have HV : Hid (D.atKey (.string s.data.toList) (i64d 0) = i64d v) := hval
            have hfl := Pl.firsts_le (keysOf ss) k
            clear hsk hsv hix hval hmem hcell hvl
            rcases hcase with ⟨rfl, hf⟩ | ⟨hvk, hf⟩
            · have HF : Hid (Pl.firsts (keysOf ss) (v + 1) = Pl.firsts (keysOf ss) v + 1) := hf
              clear hf
              go_wp2_with (at_lookup; refine wpList_lookup_own_ok_int _ rfl _ _ 26 rfl 9 3 .i64 law9 Try.underlying26 Try.underlying3 (zero3 _) g n D rfl hown _ _ rfl hkey0 ?_; intro c hat hwc; obtain rfl : c = (v : Int) := i64d_inj (hat.symm.trans HV.out))
              have hi1 : (v : Int) < (n : Int) := by omega
              have hd1 : decide ((v : Int) < 0) = false := by simp
              go_quiet (fail)
              go_wp2
              go_roundw
              case rel => exact ⟨v + 1, by omega, by go_num, by rw [HF.out]; go_num, _, rfl⟩
              case measure => simp [intOf]; omega
            · have HF : Hid (Pl.firsts (keysOf ss) (k + 1) = Pl.firsts (keysOf ss) k) := hf
              clear hf
              go_wp2_with (at_lookup; refine wpList_lookup_own_ok_int _ rfl _ _ 26 rfl 9 3 .i64 law9 Try.underlying26 Try.underlying3 (zero3 _) g n D rfl hown _ _ rfl hkey0 ?_; intro c hat hwc; obtain rfl : c = (v : Int) := i64d_inj (hat.symm.trans HV.out))
              have hi1 : (v : Int) < (n : Int) := by omega
              have hi2 : (k : Int) < (n : Int) := by omega
              have hd1 : decide ((v : Int) < 0) = false := by simp
              have hd2 : decide (k < v) = false := by simp; omega
              go_quiet (fail)
              go_wp2
              go_roundw
              case rel => exact ⟨k + 1, by omega, by go_num, by rw [HF.out], _, rfl⟩
              case measure => simp [intOf]; omega
          · have hk' : k = n := by omega
            subst hk'
            have hsize := hpl.size
            go_wp2_with (at_len; refine wpList_len_own _ rfl _ 26 rfl 9 3 Try.underlying26 _ g k D rfl hown ?_)
            go_ret
            exact ⟨by simp, below_drewN' hbw q⟩

set_option maxRecDepth 100000 in
set_option maxHeartbeats 1000000 in
theorem law1_none (a : Option Addr) (cap : Nat) (w : World) :
    Calls Try.prog 3 #[.slice a 0 cap] w fun e w' => e = .returned (.bool true) ∧ Below w.heap.size w w' := by
  have hs : StrsAt w a 0 [] := fun h => absurd h (by omega)
  go_enter Try.func3, Try.ntmps3
  go_wp2_with fail
  refine (bytes1_any _ _ _ [] w (by omega) hs).mono ?_
  rintro e w1 ⟨⟨x, rfl⟩, hw⟩
  subst hw
  cases x
  · go_wp2
    go_ret
    exact ⟨rfl, Below.refl _ _⟩
  · go_wp2_with fail
    refine (total_any _ _ _ [] _ (by omega) hs).mono ?_
    rintro e w ⟨⟨x, rfl⟩, hw⟩
    subst hw
    by_cases hx : 1048576 < x
    · go_wp2
      go_ret
      exact ⟨rfl, Below.refl _ _⟩
    · go_wp2_with fail
      refine (clone_any _ _ _ [] _ (by omega) hs).mono ?_
      rintro e w1 ⟨a1, cap1, rfl, hs1, hb1⟩
      go_wp2_with fail
      refine (plan_any _ _ _ [] _ (by omega) hs1).mono ?_
      rintro e w2 ⟨gp, rfl, hp2, hb2⟩
      go_wp2_with fail
      refine (zzplaces_any _ _ 0 [] _ (Nat.zero_le _) rfl (fun s hs => by cases hs) hp2).mono ?_
      rintro e w3 ⟨g, D, rfl, hg, hown, hpl, hb3⟩
      have hbw : Below w.heap.size w w3 := hb1.trans ((hb2.mono hb1.size).trans (hb3.mono (Nat.le_trans hb1.size hb2.size)))
      have hsize : Maps.size D = 0 := hpl.size
      clear hp2 hs1 hb1 hb2 hb3 hg hpl
      go_wp2_with fail
      refine wp_loop_rounds 1 ?_
      rw [rounds_succ]
      go_wp2_with (at_len; refine wpList_len_own _ rfl _ 26 rfl 9 3 Try.underlying26 _ g 0 D rfl hown ?_)
      go_ret
      exact ⟨by simp, hbw⟩

theorem law1_any (a : Option Addr) (n cap : Nat) (ss : List ByteArray) (w : World) (hlen : n ≤ 9223372036854775807) (hs : StrsAt w a n ss) (hl : ss.length = n) (hsz : ∀ s ∈ ss, s.size ≤ maxLen) :
    Calls Try.prog 3 #[.slice a n cap] w fun e w' => e = .returned (.bool true) ∧ Below w.heap.size w w' := by
  rcases Nat.eq_zero_or_pos n with h | h
  · subst h; exact law1_none a cap w
  · obtain ⟨b, off, ha, hb, hc⟩ := hs h
    subst ha; exact law1_some b off n cap ss w hlen h hb hc hl hsz

end Go.Proofs.Qxb6604336a
