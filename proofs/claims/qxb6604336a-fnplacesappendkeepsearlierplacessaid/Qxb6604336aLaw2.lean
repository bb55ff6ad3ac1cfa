/-
  FnPlacesAppendKeepsEarlierPlaces: the walk.
-/
import Derived.Test.Qxb6604336aLaw1
import Derived.Test.Qxb6604336aBytes2
import Derived.Maps.AppendAt
namespace Go.Proofs.Qxb6604336a
open Go.RowKit Go.Maps Go.WideMaps

theorem ownsMap_below {P : Program} {k b n : Nat} {R : Value → Option (DataW Unit × List MemPlace)} {w w' : World} {D : DataW Unit} (h : w.ownsMap P k R b n D) (hb : Below w.heap.size w w') : w'.ownsMap P k R b n D := by
  have hlt := h.lt
  obtain ⟨es, clock, hbl, r⟩ := h
  exact ⟨es, clock, (hb.block b hlt).trans hbl, r⟩

/-- The first k strings of tt, as values. -/
def XS (tt : List ByteArray) (k : Nat) : List Value := (tt.take k).map Value.string
theorem XS_step {tt : List ByteArray} {k : Nat} (hk : k < tt.length) : XS tt (k + 1) = XS tt k ++ [.string (tt.getD k ByteArray.empty)] := by
  unfold XS
  rw [List.take_succ_eq_append_getElem hk, List.map_append]; simp only [List.map_cons, List.map_nil, List.getD, List.getElem?_eq_getElem hk, Option.getD_some]
theorem XS_one (s : ByteArray) : ∀ u ∈ [Value.string s], u.oneCell' = true := by
  intro u hu; simp at hu; subst hu; rfl
theorem getD_left {ss tt : List ByteArray} {k : Nat} (hk : k < ss.length) : (ss ++ tt).getD k ByteArray.empty = ss.getD k ByteArray.empty := by
  simp [List.getD, List.getElem?_append_left hk]
theorem getD_right {ss tt : List ByteArray} (k : Nat) : (ss ++ tt).getD (ss.length + k) ByteArray.empty = tt.getD k ByteArray.empty := by
  simp [List.getD, List.getElem?_append_right]

/-- A row that is filled with tt, as a slice of strings. -/
theorem strs_of_owned {w : World} {B g n cap : Nat} {tt : List ByteArray} (hl : tt.length = n) (h : w.ownsRow B 9 1 (.slice (some ⟨g, 0, none⟩) n cap) n (XS tt n)) : StrsAt w (some ⟨g, 0, none⟩) n tt := by
  intro _
  refine ⟨g, 0, rfl, (h.lt g rfl).2, fun j hj => ?_⟩
  rw [Nat.zero_add, h.cellAt j (by omega)]
  unfold XS
  simp [hj, hl]

/-- What a round of the first check finds: both maps give one place. -/
theorem old_fact {ss ts : List ByteArray} {k : Nat} (hk : k < ss.length) : ∃ v s, ss.getD k ByteArray.empty = s ∧ v < ss.length ∧ (keysOf ss).idxOf s.data.toList = v ∧ s.data.toList ∈ keysOf ss ∧
    (keysOf (ss ++ ts)).idxOf s.data.toList = v ∧ s.data.toList ∈ keysOf (ss ++ ts) := by
  obtain ⟨v, s, h1, _, h3, h4, h5, _⟩ := round_fact hk
  have e : keysOf (ss ++ ts) = keysOf ss ++ keysOf ts := by simp [keysOf]
  refine ⟨v, s, h1, h3, h4, h5, ?_, ?_⟩
  · rw [e, Pl.idxOf_both_in (List.contains_iff_mem.2 h5)]; exact h4
  · rw [e]; exact List.mem_append_left _ h5

/-- What a round of the second check finds: the key was among the ids, or it is new: then its place is shifted, and it is counted where it stands first. -/
theorem new_fact {ss ts : List ByteArray} {k : Nat} (hk : k < ts.length) : ∃ v2 v3 s, ts.getD k ByteArray.empty = s ∧ v3 ≤ k ∧ (keysOf ts).idxOf s.data.toList = v3 ∧ s.data.toList ∈ keysOf ts ∧
    (keysOf (ss ++ ts)).idxOf s.data.toList = v2 ∧ s.data.toList ∈ keysOf (ss ++ ts) ∧
    ((s.data.toList ∈ keysOf ss ∧ (keysOf ss).idxOf s.data.toList = v2 ∧ Pl.added (keysOf ss) (keysOf ts) (k + 1) = Pl.added (keysOf ss) (keysOf ts) k) ∨
     ((keysOf ss).contains s.data.toList = false ∧ v2 = ss.length + v3 ∧ ((v3 = k ∧ Pl.added (keysOf ss) (keysOf ts) (k + 1) = Pl.added (keysOf ss) (keysOf ts) k + 1) ∨ (v3 < k ∧ Pl.added (keysOf ss) (keysOf ts) (k + 1) = Pl.added (keysOf ss) (keysOf ts) k)))) := by
  have hat := keysOf_at hk
  have hmem := Pl.mem_of_at hat
  have hle := Pl.idxOf_le hat
  have e : keysOf (ss ++ ts) = keysOf ss ++ keysOf ts := by simp [keysOf]
  refine ⟨_, _, _, rfl, hle, rfl, hmem, rfl, by rw [e]; exact List.mem_append_right _ hmem, ?_⟩
  cases hc : (keysOf ss).contains (ts.getD k ByteArray.empty).data.toList
  · refine .inr ⟨rfl, by rw [e, Pl.idxOf_both_out hc, keysOf_length], ?_⟩
    by_cases he : (keysOf ts).idxOf (ts.getD k ByteArray.empty).data.toList = k
    · exact .inl ⟨he, Pl.added_hit hat hc he⟩
    · exact .inr ⟨by omega, Pl.added_miss hat hc he⟩
  · exact .inl ⟨List.contains_iff_mem.1 hc, by rw [e, Pl.idxOf_both_in hc], Pl.added_in hat hc⟩

theorem Places.lacks {ss : List ByteArray} {n : Nat} {D : DataW Unit} (h : Places (keysOf ss) n D) (hl : ss.length = n) {x : List UInt8} (hx : (keysOf ss).contains x = false) : Maps.has D (.string x) = false := by
  rw [h.has, List.take_of_length_le (by rw [keysOf_length]; omega)]; exact hx

theorem sizes_fact {ss ts : List ByteArray} {n m : Nat} {D1 D2 : DataW Unit} (h1 : Places (keysOf ss) n D1) (h2 : Places (keysOf (ss ++ ts)) (n + m) D2) (hs : ss.length = n) (ht : ts.length = m) :
    Maps.size D2 = Maps.size D1 + Pl.added (keysOf ss) (keysOf ts) m ∧ Maps.size D1 ≤ n := by
  have e : keysOf (ss ++ ts) = keysOf ss ++ keysOf ts := by simp [keysOf]
  subst hs; subst ht
  have := Pl.firsts_both (keysOf ss) (keysOf ts) ts.length (by rw [keysOf_length]; omega)
  rw [h2.size, h1.size, e]
  rw [keysOf_length] at this
  exact ⟨this, Pl.firsts_le _ _⟩

set_option maxRecDepth 100000 in
set_option maxHeartbeats 2000000 in
theorem law2_any (a : Option Addr) (n cap : Nat) (ss : List ByteArray) (a' : Option Addr) (m cap' : Nat) (ts : List ByteArray) (w : World)
    (hn : n ≤ 9223372036854775807) (hm : m ≤ 9223372036854775807) (hs : StrsAt w a n ss) (ht : StrsAt w a' m ts) (hls : ss.length = n) (hlt : ts.length = m)
    (hzs : ∀ s ∈ ss, s.size ≤ maxLen) (hzt : ∀ s ∈ ts, s.size ≤ maxLen) :
    Calls Try.prog 4 #[.slice a n cap, .slice a' m cap'] w fun e w' => e = .returned (.bool true) ∧ Below w.heap.size w w' := by
  have HLS : Hid (ss.length = n) := hls
  have HLT : Hid (ts.length = m) := hlt
  clear hls hlt
  go_enter Try.func4, Try.ntmps4
  go_wp2_with fail
  refine (bytes2_any _ _ _ ss _ _ _ ts w hn hm hs ht).mono ?_
  rintro e w1 ⟨⟨x, rfl⟩, hw⟩
  subst hw
  cases x
  · go_wp2
    go_ret
    exact ⟨rfl, Below.refl _ _⟩
  by_cases hbn : 65536 < n
  · go_wp2
    go_ret
    exact ⟨rfl, Below.refl _ _⟩
  by_cases hbm : 65536 < m
  · go_wp2
    go_ret
    exact ⟨rfl, Below.refl _ _⟩
  go_wp2_with fail
  refine (total_any _ _ _ ss _ hn hs).mono ?_
  rintro e w1 ⟨⟨x, rfl⟩, hw⟩
  subst hw
  go_wp2_with fail
  refine (total_any _ _ _ ts _ hm ht).mono ?_
  rintro e w ⟨⟨y, rfl⟩, hw⟩
  subst hw
  go_wp2_with fail
  · go_ret
    exact ⟨rfl, Below.refl _ _⟩
  refine (clone_any _ _ _ ss _ (by omega) hs).mono ?_
  rintro e w1 ⟨a1, cap1, rfl, hs1, hb1⟩
  have ht1 := ht.below hb1
  go_wp2_with fail
  refine (clone_any _ _ _ ts _ (by omega) ht1).mono ?_
  rintro e w2 ⟨a2, cap2, rfl, ht2, hb2⟩
  have hs2 := hs1.below hb2
  have hbw : Below w.heap.size w w2 := hb1.trans (hb2.mono hb1.size)
  clear hs ht hs1 ht1 hb1 hb2
  obtain ⟨i0, hi, hz0, hz1, hz2⟩ := info_parts Try.info9
  go_wp2_with (at_make; refine wpList_make_own _ rfl _ _ 22 rfl w2.heap.size 9 i0 (.string ByteArray.empty) 1 Try.underlying22 hi hz0 hz1 _ _ _ (n + m) rfl rfl (by omega) (by rw [hz2]; omega) (by unfold maxLen; omega) (Nat.le_refl _) ?_; intro w3 hown3 hgrow3)
  have hb3 : Below w2.heap.size w2 w3 := (Below.refl _ _).grown hgrow3 (Nat.le_refl _) (fun k hk => by cases hk)
  go_loopw [5, 6] (fun v i wr => ∃ k : Nat, k ≤ n ∧ i = .int .i64 k ∧ v = .slice (some ⟨w2.heap.size, 0, none⟩) k (n + m) ∧ wr.ownsRow w2.heap.size 9 1 (.slice (some ⟨w2.heap.size, 0, none⟩) k (n + m)) k (XS (ss ++ ts) k) ∧ Below w2.heap.size w2 wr)
    (fun _ i _ => n - (intOf i).toNat)
  case atStart => exact ⟨0, Nat.zero_le _, rfl, rfl, hown3, hb3⟩
  case round =>
    obtain ⟨k, hk, rfl, rfl, hown, hnx⟩ := hrel
    by_cases hlt : k < n
    · obtain ⟨b, off, ha, hb, hc⟩ := hs2 (by omega)
      subst ha
      have hcell : wr.cell? ⟨b, off + k, none⟩ = some (.string (ss.getD k ByteArray.empty)) := (hnx.cell (p := ⟨b, off + k, none⟩) hb).trans (hc k hlt)
      have HX : Hid (XS (ss ++ ts) (k + 1) = XS (ss ++ ts) k ++ [.string (ss.getD k ByteArray.empty)]) := by
        have hl : k < ss.length := by rw [HLS.out]; exact hlt
        have := XS_step (tt := ss ++ ts) (k := k) (by rw [List.length_append]; omega)
        rw [getD_left hl] at this
        exact this
      generalize ss.getD k ByteArray.empty = s at hcell HX
      clear hs2 ht2 hc hown3 hgrow3 hb3
      go_wp2_with (at_builtin; refine wpList_append_fits _ rfl _ _ 22 rfl w2.heap.size 9 i0 1 Try.underlying22 hi hz1 w2.heap.size k (n + m) _ rfl (hown.alloc _) ⟨wr.heap.size, 0, none⟩ 1 1 [.string s] rfl rfl (cell_one_new _ _ _) (XS_one s) (by omega) ?_; intro w4 hown4 hgrow4)
      go_roundw
      case rel => exact ⟨k + 1, by omega, by go_num, rfl, by rw [HX.out]; exact hown4, (hnx.alloc hnx.size _).grown hgrow4 (by simp; exact Nat.le_trans hnx.size (Nat.le_succ _)) (fun j hj => by cases hj; exact Nat.le_refl _)⟩
      case measure => simp [intOf]; omega
    · have hk' : n = k := by omega
      subst hk'
      clear hown3 hgrow3 hb3
      go_wp2_with fail
      go_loopw [5, 7] (fun v i wr => ∃ k : Nat, k ≤ m ∧ i = .int .i64 k ∧ v = .slice (some ⟨w2.heap.size, 0, none⟩) (n + k) (n + m) ∧ wr.ownsRow w2.heap.size 9 1 (.slice (some ⟨w2.heap.size, 0, none⟩) (n + k) (n + m)) (n + k) (XS (ss ++ ts) (n + k)) ∧ Below w2.heap.size w2 wr)
        (fun _ i _ => m - (intOf i).toNat)
      case atStart => exact ⟨0, Nat.zero_le _, rfl, rfl, hown, hnx⟩
      case round =>
        clear hown hnx
        obtain ⟨k, hk, rfl, rfl, hown, hnx⟩ := hrel
        by_cases hlt : k < m
        · obtain ⟨b, off, ha, hb, hc⟩ := ht2 (by omega)
          subst ha
          have hcell : wr.cell? ⟨b, off + k, none⟩ = some (.string (ts.getD k ByteArray.empty)) := (hnx.cell (p := ⟨b, off + k, none⟩) hb).trans (hc k hlt)
          have HX : Hid (XS (ss ++ ts) (n + (k + 1)) = XS (ss ++ ts) (n + k) ++ [.string (ts.getD k ByteArray.empty)]) := by
            have hl : k < ts.length := by rw [HLT.out]; exact hlt
            have := XS_step (tt := ss ++ ts) (k := ss.length + k) (by rw [List.length_append]; omega)
            rw [getD_right, HLS.out] at this
            exact this
          generalize ts.getD k ByteArray.empty = s at hcell HX
          clear hs2 ht2 hc
          go_wp2_with (at_builtin; refine wpList_append_fits _ rfl _ _ 22 rfl w2.heap.size 9 i0 1 Try.underlying22 hi hz1 w2.heap.size (n + k) (n + m) _ rfl (hown.alloc _) ⟨wr.heap.size, 0, none⟩ 1 1 [.string s] rfl rfl (cell_one_new _ _ _) (XS_one s) (by omega) ?_; intro w4 hown4 hgrow4)
          go_roundw
          case rel => exact ⟨k + 1, by omega, by go_num, rfl, by rw [HX.out]; exact hown4, (hnx.alloc hnx.size _).grown hgrow4 (by simp; exact Nat.le_trans hnx.size (Nat.le_succ _)) (fun j hj => by cases hj; exact Nat.le_refl _)⟩
          case measure => simp [intOf]; omega
        · have hk' : m = k := by omega
          subst hk'
          have hsx := hs2.below hnx
          have htx := ht2.below hnx
          have HLB : Hid ((ss ++ ts).length = n + m) := by show (ss ++ ts).length = n + m; rw [List.length_append, HLS.out, HLT.out]
          have hbx := strs_of_owned HLB.out hown
          have hzb : ∀ s ∈ ss ++ ts, s.size ≤ maxLen := fun s hs => (List.mem_append.1 hs).elim (hzs s) (hzt s)
          have hbx2 : Below w.heap.size w wr := hbw.trans (hnx.mono hbw.size)
          clear hs2 ht2 hown hnx hbw
          go_wp2_with fail
          refine (plan_any _ _ _ ss _ (by omega) hsx).mono ?_
          rintro e x1 ⟨gp1, rfl, hp1, hc1⟩
          go_wp2_with fail
          refine (zzplaces_any _ _ _ ss _ (by omega) HLS.out hzs hp1).mono ?_
          rintro e x2 ⟨g1, D1, rfl, _, ho1, hq1, hc2⟩
          have hd2 := hc1.trans (hc2.mono hc1.size)
          have hsx2 := hsx.below hd2
          have htx2 := htx.below hd2
          have hbx3 := hbx.below hd2
          have hw2 := hbx2.trans (hd2.mono hbx2.size)
          clear hp1 hc1 hc2 hsx htx hbx hbx2 hd2
          go_wp2_with fail
          refine (plan_any _ _ _ (ss ++ ts) _ (by omega) hbx3).mono ?_
          rintro e x3 ⟨gp2, rfl, hp2, hc3⟩
          go_wp2_with fail
          refine (zzplaces_any _ _ _ (ss ++ ts) _ (by omega) HLB.out hzb hp2).mono ?_
          rintro e x4 ⟨g2, D2, rfl, _, ho2, hq2, hc4⟩
          have hd4 := hc3.trans (hc4.mono hc3.size)
          have hsx4 := hsx2.below hd4
          have htx4 := htx2.below hd4
          have ho1b := ownsMap_below ho1 hd4
          have hw4 := hw2.trans (hd4.mono hw2.size)
          clear hp2 hc3 hc4 hsx2 htx2 hbx3 hd4 ho1 hw2 hzb
          go_wp2_with fail
          refine (plan_any _ _ _ ts _ (by omega) htx4).mono ?_
          rintro e x5 ⟨gp3, rfl, hp3, hc5⟩
          go_wp2_with fail
          refine (zzplaces_any _ _ _ ts _ (by omega) HLT.out hzt hp3).mono ?_
          rintro e x6 ⟨g3, D3, rfl, _, ho3, hq3, hc6⟩
          have hd6 := hc5.trans (hc6.mono hc5.size)
          have hs6 := hsx4.below hd6
          have ht6 := htx4.below hd6
          have ho1c := ownsMap_below ho1b hd6
          have ho2c := ownsMap_below ho2 hd6
          have hw6 := hw4.trans (hd6.mono hw4.size)
          clear hp3 hc5 hc6 hsx4 htx4 hd6 ho1b ho2 hw4 HLB
          go_wp2_with fail
          go_loop [11] (fun i => ∃ k : Nat, k ≤ n ∧ i = .int .i64 k) (fun i => n - (intOf i).toNat)
          case atStart => exact ⟨0, Nat.zero_le _, rfl⟩
          case round =>
            obtain ⟨k, hk, rfl⟩ := hrel
            by_cases hlt : k < n
            · obtain ⟨v, s, hsk, hvl, hix1, hm1, hix2, hm2⟩ := old_fact (ss := ss) (ts := ts) (k := k) (by rw [HLS.out]; exact hlt)
              obtain ⟨b, off, ha, hb, hc⟩ := hs6 (by omega)
              subst ha
              have hck : x6.cell? ⟨b, off + k, none⟩ = some (.string s) := by rw [← hsk]; exact hc k hlt
              have hkey0 : keyOf Try.prog 9 (.string s) = some (.string s.data.toList) := by rw [← hsk]; exact key_ok hzs k (by rw [HLS.out]; exact hlt)
              obtain ⟨hh1, hv1⟩ := hq1.full HLS.out hm1
              obtain ⟨hh2, hv2⟩ := hq2.full (by rw [List.length_append, HLS.out, HLT.out]) hm2
              rw [hix1] at hv1
              rw [hix2] at hv2
              have HV1 : Hid (D1.atKey (.string s.data.toList) (i64d 0) = i64d v) := hv1
              have HV2 : Hid (D2.atKey (.string s.data.toList) (i64d 0) = i64d v) := hv2
              clear hsk hix1 hix2 hm1 hm2 hv1 hv2 hc hq1 hq2 hq3 hs6 ht6
              go_wp2_with (first
                | (at_lookup; refine wpList_lookup_own_ok_int _ rfl (.tmp 95) (.tmp 99) 26 rfl 9 3 .i64 law9 Try.underlying26 Try.underlying3 (zero3 _) g1 n D1 rfl ho1c _ _ rfl hkey0 ?_; intro c1 hat1 hwc1; obtain rfl : c1 = (v : Int) := i64d_inj (hat1.symm.trans HV1.out))
                | (at_lookup; refine wpList_lookup_own_ok_int _ rfl (.tmp 104) (.tmp 108) 26 rfl 9 3 .i64 law9 Try.underlying26 Try.underlying3 (zero3 _) g2 (n + m) D2 rfl ho2c _ _ rfl hkey0 ?_; intro c2 hat2 hwc2; obtain rfl : c2 = (v : Int) := i64d_inj (hat2.symm.trans HV2.out)))
              go_round
              case rel => exact ⟨k + 1, by omega, by go_num⟩
              case measure => simp [intOf]; omega
            · clear hs6
              go_wp2_with fail
              go_loop [16, 17] (fun t i => ∃ k : Nat, k ≤ m ∧ i = .int .i64 k ∧ t = .int .i64 (Pl.added (keysOf ss) (keysOf ts) k : Nat)) (fun _ i => m - (intOf i).toNat)
              case atStart => exact ⟨0, Nat.zero_le _, rfl, rfl⟩
              case round =>
                obtain ⟨k, hk, rfl, rfl⟩ := hrel
                by_cases hlt : k < m
                · obtain ⟨v2, v3, s, hsk, hv3, hix3, hm3, hix2, hm2, hcase⟩ := new_fact (ss := ss) (ts := ts) (k := k) (by rw [HLT.out]; exact hlt)
                  obtain ⟨b, off, ha, hb, hc⟩ := ht6 (by omega)
                  subst ha
                  have hck : x6.cell? ⟨b, off + k, none⟩ = some (.string s) := by rw [← hsk]; exact hc k hlt
                  have hkey0 : keyOf Try.prog 9 (.string s) = some (.string s.data.toList) := by rw [← hsk]; exact key_ok hzt k (by rw [HLT.out]; exact hlt)
                  obtain ⟨hh2, hv2⟩ := hq2.full (by rw [List.length_append, HLS.out, HLT.out]) hm2
                  obtain ⟨hh3, hv3'⟩ := hq3.full HLT.out hm3
                  rw [hix2] at hv2
                  rw [hix3] at hv3'
                  have HV3 : Hid (D3.atKey (.string s.data.toList) (i64d 0) = i64d v3) := hv3'
                  have hal := Pl.added_le (keysOf ss) (keysOf ts) k
                  clear hsk hix2 hix3 hm2 hm3 hc hv3' ht6
                  rcases hcase with ⟨hin, hix1, hf⟩ | ⟨hout, rfl, hcase⟩
                  · have HV2 : Hid (D2.atKey (.string s.data.toList) (i64d 0) = i64d v2) := hv2
                    obtain ⟨hh1, hv1⟩ := hq1.full HLS.out hin
                    rw [hix1] at hv1
                    have HV1 : Hid (D1.atKey (.string s.data.toList) (i64d 0) = i64d v2) := hv1
                    have HF : Hid (Pl.added (keysOf ss) (keysOf ts) (k + 1) = Pl.added (keysOf ss) (keysOf ts) k) := hf
                    clear hv2 hix1 hv1 hf hin hq1 hq2 hq3
                    go_wp2_with (first
                    | (at_lookup; refine wpList_lookup_own_ok_int _ rfl (.tmp 134) (.tmp 135) 26 rfl 9 3 .i64 law9 Try.underlying26 Try.underlying3 (zero3 _) g2 (n + m) D2 rfl ho2c _ _ rfl hkey0 ?_; intro c2 hatc2 hwc2; obtain rfl : c2 = (v2 : Int) := i64d_inj (hatc2.symm.trans HV2.out))
                    | (at_lookup; refine wpList_lookup_own_ok_int _ rfl (.tmp 140) (.tmp 141) 26 rfl 9 3 .i64 law9 Try.underlying26 Try.underlying3 (zero3 _) g3 m D3 rfl ho3 _ _ rfl hkey0 ?_; intro c3 hatc3 hwc3; obtain rfl : c3 = (v3 : Int) := i64d_inj (hatc3.symm.trans HV3.out))
                    | (at_lookup; refine wpList_lookup_own_ok_int _ rfl (.tmp 152) (.tmp 153) 26 rfl 9 3 .i64 law9 Try.underlying26 Try.underlying3 (zero3 _) g1 n D1 rfl ho1c _ _ rfl hkey0 ?_; intro c1 hatc1 hwc1; obtain rfl : c1 = (v2 : Int) := i64d_inj (hatc1.symm.trans HV1.out)))
                    go_round
                    case rel => exact ⟨k + 1, by omega, by go_num, by rw [HF.out]⟩
                    case measure => simp [intOf]; omega
                  · have hh1 := hq1.lacks HLS.out hout
                    have HV2 : Hid (D2.atKey (.string s.data.toList) (i64d 0) = i64d ((n : Int) + (v3 : Int))) := by
                      show D2.atKey (.string s.data.toList) (i64d 0) = i64d ((n : Int) + (v3 : Int))
                      rw [hv2, HLS.out, Int.natCast_add]
                    clear hv2 hout hq1 hq2 hq3
                    rcases hcase with ⟨rfl, hf⟩ | ⟨hvk, hf⟩
                    · have HF : Hid (Pl.added (keysOf ss) (keysOf ts) (v3 + 1) = Pl.added (keysOf ss) (keysOf ts) v3 + 1) := hf
                      clear hf
                      go_wp2_with (first
                    | (at_lookup; refine wpList_lookup_own_ok_int _ rfl (.tmp 134) (.tmp 135) 26 rfl 9 3 .i64 law9 Try.underlying26 Try.underlying3 (zero3 _) g2 (n + m) D2 rfl ho2c _ _ rfl hkey0 ?_; intro c2 hatc2 hwc2; obtain rfl : c2 = (n : Int) + (v3 : Int) := i64d_inj (hatc2.symm.trans HV2.out))
                    | (at_lookup; refine wpList_lookup_own_ok_int _ rfl (.tmp 140) (.tmp 141) 26 rfl 9 3 .i64 law9 Try.underlying26 Try.underlying3 (zero3 _) g3 m D3 rfl ho3 _ _ rfl hkey0 ?_; intro c3 hatc3 hwc3; obtain rfl : c3 = (v3 : Int) := i64d_inj (hatc3.symm.trans HV3.out))
                    | (at_lookup; refine wpList_lookup_own_ok_int _ rfl (.tmp 152) (.tmp 153) 26 rfl 9 3 .i64 law9 Try.underlying26 Try.underlying3 (zero3 _) g1 n D1 rfl ho1c _ _ rfl hkey0 ?_; intro c1 hatc1 hwc1))
                      go_round
                      case rel => exact ⟨v3 + 1, by omega, by go_num, by rw [HF.out]; go_num⟩
                      case measure => simp [intOf]; omega
                    · have HF : Hid (Pl.added (keysOf ss) (keysOf ts) (k + 1) = Pl.added (keysOf ss) (keysOf ts) k) := hf
                      clear hf
                      go_wp2_with (first
                    | (at_lookup; refine wpList_lookup_own_ok_int _ rfl (.tmp 134) (.tmp 135) 26 rfl 9 3 .i64 law9 Try.underlying26 Try.underlying3 (zero3 _) g2 (n + m) D2 rfl ho2c _ _ rfl hkey0 ?_; intro c2 hatc2 hwc2; obtain rfl : c2 = (n : Int) + (v3 : Int) := i64d_inj (hatc2.symm.trans HV2.out))
                    | (at_lookup; refine wpList_lookup_own_ok_int _ rfl (.tmp 140) (.tmp 141) 26 rfl 9 3 .i64 law9 Try.underlying26 Try.underlying3 (zero3 _) g3 m D3 rfl ho3 _ _ rfl hkey0 ?_; intro c3 hatc3 hwc3; obtain rfl : c3 = (v3 : Int) := i64d_inj (hatc3.symm.trans HV3.out))
                    | (at_lookup; refine wpList_lookup_own_ok_int _ rfl (.tmp 152) (.tmp 153) 26 rfl 9 3 .i64 law9 Try.underlying26 Try.underlying3 (zero3 _) g1 n D1 rfl ho1c _ _ rfl hkey0 ?_; intro c1 hatc1 hwc1))
                      go_round
                      case rel => exact ⟨k + 1, by omega, by go_num, by rw [HF.out]⟩
                      case measure => simp [intOf]; omega
                · have hk' : m = k := by omega
                  subst hk'
                  obtain ⟨hz2, hz1⟩ := sizes_fact hq1 hq2 HLS.out HLT.out
                  have hal := Pl.added_le (keysOf ss) (keysOf ts) m
                  clear hq1 hq2 hq3 ht6
                  go_wp2_with (first
                    | (at_len; refine wpList_len_own _ rfl (.tmp 172) 26 rfl 9 3 Try.underlying26 _ g2 (n + m) D2 rfl ho2c ?_)
                    | (at_len; refine wpList_len_own _ rfl (.tmp 174) 26 rfl 9 3 Try.underlying26 _ g1 n D1 rfl ho1c ?_))
                  go_ret
                  exact ⟨by simp, hw6⟩

end Go.Proofs.Qxb6604336a
