/-
  FnPeekConsumeWalkReadsTheRest: the walk.
-/
import Derived.Test.Qxb6604678aPeek
import Derived.Maps.AppendAt
import Derived.Laws.IdiomStrings
namespace Go.Proofs.Qxb6604678a
open Go.RowKit

theorem Try.info5 : (Try.prog.info? 5).map (fun i => (i.zero, i.size, i.bytes)) = some (some (.int .u8 0), 1, 1) := by kernel_rfl

/-- The k bytes from p on, as values. -/
def BS (doc : ByteArray) (p k : Nat) : List Value := (List.range k).map (fun j => Value.int .u8 (byteAt doc (p + j)))
theorem BS_step (doc : ByteArray) (p k : Nat) : BS doc p (k + 1) = BS doc p k ++ [.int .u8 (byteAt doc (p + k))] := by
  simp [BS, List.range_succ]
theorem BS_at {doc : ByteArray} {p k j : Nat} (h : j < k) : (BS doc p k)[j]? = some (.int .u8 (byteAt doc (p + j))) := by
  simp [BS, h]

theorem rest_eq (doc : ByteArray) (p : Nat) : (⟨(doc.data.toList.drop p).toArray⟩ : ByteArray) = doc.extract p doc.size := by
  apply ByteArray.ext
  apply Array.toList_inj.1
  have hz : doc.size = doc.data.toList.length := by rw [Array.length_toList]; rfl
  simp only [ByteArray.data_extract, Array.toList_extract, List.extract_eq_take_drop]
  rw [List.take_of_length_le (by rw [List.length_drop, hz]; exact Nat.le_refl _)]

/-- 'string(read)': the rest of the document. -/
theorem conv_rest {w : World} {B g n : Nat} {doc : ByteArray} {p : Nat} (hn : p + n = doc.size) (h : w.ownsRow B 5 1 (.slice (some ⟨g, 0, none⟩) n n) n (BS doc p n)) (q : Nat) :
    (convert 25 9 (.slice (some ⟨g, 0, none⟩) n n)).run Try.prog (w.drewN q) = .ok (.string (doc.extract p doc.size)) (w.drewN q) := by
  have hl : (doc.data.toList.drop p).length = n := by
    have hz : doc.data.toList.length = doc.size := by rw [Array.length_toList]; rfl
    rw [List.length_drop, hz]; omega
  have := run_convert_bytes_back (P := Try.prog) (w.drewN q) 25 9 5 ⟨g, 0, none⟩ n (doc.data.toList.drop p) Try.underlying25 Try.underlying5 Try.underlying9 (fun j hj => by
    rw [hl] at hj
    have hadd : (⟨g, 0, none⟩ : Addr).add j = ⟨g, j, none⟩ := by unfold Addr.add; split <;> simp_all
    rw [hadd, World.cell?_drewN, h.cellAt j (by omega), BS_at hj, byteAt_lt (by omega)]
    simp [ByteArray.getElem_eq_getElem_data])
  rw [hl, rest_eq] at this
  exact this

theorem below_drewN' {B : Nat} {w w' : World} (h : Below B w w') (q : Nat) : Below B w (w'.drewN q) := ⟨h.os, h.tape, h.output, h.size, h.block⟩

theorem PAt.kept {w w' : World} {g : Nat} {doc : ByteArray} {p : Nat} {line : Int} {row : Option Nat} (h : PAt w g doc p line) (hg : w.grownBy w' row) (hlt : g < w.heap.size) (hne : some g ≠ row) : PAt w' g doc p line :=
  ⟨hg.cell h.doc hne, hg.cell h.pos hne, hg.cell h.line hne, (World.frozen?_of_block (hg.block g hlt hne)).trans h.fr⟩

set_option maxRecDepth 100000 in
set_option maxHeartbeats 1000000 in
theorem law_any (doc : ByteArray) (pos line : Int) (w : World) (hs : doc.size ≤ maxLen) :
    Calls Try.prog 3 #[.string doc, .int .i64 pos, .int .i64 line] w fun e w' => e = .returned (.bool true) ∧ Below w.heap.size w w' := by
  have hs' : doc.size ≤ 9223372036854775807 := by unfold maxLen at hs; omega
  go_enter Try.func3, Try.ntmps3
  go_wp2_with fail
  refine (bytes_any w doc pos line hs).mono ?_
  rintro e w1 ⟨⟨x, rfl⟩, hw⟩
  subst hw
  cases x
  · go_wp2
    go_ret
    exact ⟨rfl, Below.refl _ _⟩
  by_cases hbig : 65536 < doc.size
  · go_wp2
    go_ret
    exact ⟨rfl, Below.refl _ _⟩
  by_cases hneg : pos < 0
  · go_wp2
    go_ret
    exact ⟨rfl, Below.refl _ _⟩
  by_cases hbeyond : (doc.size : Int) < pos
  · go_wp2
    go_ret
    exact ⟨rfl, Below.refl _ _⟩
  obtain ⟨p, rfl⟩ := Int.eq_ofNat_of_zero_le (show 0 ≤ pos by omega)
  have hp : p ≤ doc.size := by omega
  go_wp2_with fail
  refine (new_any _ doc p line).mono ?_
  rintro e w2 ⟨rfl, hP2, hlt2, hb2⟩
  obtain ⟨n, hn⟩ : ∃ n, p + n = doc.size := ⟨doc.size - p, by omega⟩
  have HN : Hid (p + n = doc.size) := hn
  have hn1 : p + n ≤ doc.size := by omega
  have hn2 : doc.size ≤ p + n := by omega
  clear hn
  obtain ⟨i0, hi, hz0, hz1, hz2⟩ := info_parts Try.info5
  go_wp2_with (at_make; refine wpList_make_own _ rfl _ _ 25 rfl w2.heap.size 5 i0 (.int .u8 0) 1 Try.underlying25 hi hz0 hz1 _ _ _ n rfl rfl (by omega) (by rw [hz2]; omega) (by unfold maxLen; omega) (Nat.le_refl _) ?_; intro w3 hown3 hgrow3)
  have hg3 : w1.heap.size < w2.heap.size := hlt2
  have hP3 : PAt w3 w1.heap.size doc p line := hP2.kept hgrow3 hg3 (by simp)
  have hb3 : Below w1.heap.size w1 w3 := hb2.grown hgrow3 hb2.size (fun k hk => by cases hk)
  have hsz3 : w2.heap.size < w3.heap.size := (hown3.lt _ rfl).2
  clear hP2 hb2 hgrow3 hlt2
  go_loopw [9, 10] (fun v i wr => ∃ k : Nat, k ≤ n ∧ i = .int .i64 k ∧ v = .slice (some ⟨w2.heap.size, 0, none⟩) k n ∧ wr.ownsRow w2.heap.size 5 1 (.slice (some ⟨w2.heap.size, 0, none⟩) k n) k (BS doc p k) ∧ PAt wr w1.heap.size doc (p + k) line ∧ Below w1.heap.size w1 wr ∧ w2.heap.size < wr.heap.size)
    (fun _ i _ => n - (intOf i).toNat)
  case atStart => exact ⟨0, Nat.zero_le _, rfl, rfl, hown3, hP3, hb3, hsz3⟩
  case round =>
    clear hown3 hP3 hb3 hsz3
    obtain ⟨k, hk, rfl, rfl, hown, hP, hnx, hsz⟩ := hrel
    by_cases hlt : k < n
    · go_wp2_with fail
      refine (zzpeek_any _ _ doc (p + k) line hP (by omega) (by omega)).mono ?_
      rintro e w4 ⟨q, rfl, rfl⟩
      go_wp2_with fail
      refine (zzconsume_yes _ _ doc (p + k) line (hP.drewN q) (by omega) (by omega)).mono ?_
      rintro e w5 ⟨rfl, hP5, hg5⟩
      have hown5 : w5.ownsRow w2.heap.size 5 1 (.slice (some ⟨w2.heap.size, 0, none⟩) k n) k (BS doc p k) := World.ownsRow.kept (w := wr.drewN q) hown hg5 (.inr (by simp [Value.ownBlock]; omega))
      have hb5 : Below w1.heap.size w1 w5 := (below_drewN' hnx q).grown hg5 hnx.size (fun j hj => by cases hj; exact Nat.le_refl _)
      have hsz5 : w2.heap.size < w5.heap.size := Nat.lt_of_lt_of_le hsz hg5.size
      clear hown hP hnx hsz hg5
      go_wp2_with fail
      refine (pos_any _ _ doc (p + k + 1) line hP5).mono ?_
      rintro e w6 ⟨rfl, hw6⟩
      subst hw6
      have hbs := BS_step doc p k
      have HB : Hid (BS doc p (k + 1) = BS doc p k ++ [.int .u8 (byteAt doc (p + k))]) := hbs
      clear hbs
      generalize byteAt doc (p + k) = c at HB
      go_wp2_with (at_builtin; refine wpList_append_fits _ rfl _ _ 25 rfl w2.heap.size 5 i0 1 Try.underlying25 hi hz1 w2.heap.size k n _ rfl (hown5.alloc _) ⟨w6.heap.size, 0, none⟩ 1 1 [.int .u8 c] rfl rfl (cell_one_new _ _ _) (ints_oneCell .u8 [c]) (by omega) ?_; intro w7 hown7 hgrow7)
      have hg8 : w1.heap.size < (w6.alloc (.cells #[.int .u8 c] 5)).heap.size := by simp; omega
      go_roundw
      case rel =>
        refine ⟨k + 1, by omega, by go_num, rfl, by rw [HB.out]; exact hown7, ?_, ?_, ?_⟩
        · exact (hP5.kept (World.grownBy_alloc w6 _ none) (by omega) (by simp)).kept hgrow7 hg8 (by simp; omega)
        · exact (hb5.alloc hb5.size _).grown hgrow7 (Nat.le_of_lt hg8) (fun j hj => by cases hj; omega)
        · exact (hown7.lt _ rfl).2
      case measure => simp [intOf]; omega
    · have hk' : n = k := by omega
      subst hk'
      have hcv := fun q => conv_rest (B := w2.heap.size) HN.out hown q
      have hi2 : (p : Int) ≤ (doc.size : Int) := by omega
      go_wp2
      go_quiet (fail)
      go_wp2_with fail
      have hb0 : byteAt doc (p + n) = 0 := byteAt_end (by omega)
      clear hcv
      refine (zzpeek_any _ _ doc (p + n) line (hP.drewN _) (by omega) (by omega)).mono ?_
      rintro e w4 ⟨q, rfl, rfl⟩
      rw [hb0]
      clear hb0
      go_wp2_with fail
      refine (pos_any _ _ doc (p + n) line (hP.drewN _)).mono ?_
      rintro e w5 ⟨rfl, hw5⟩
      subst hw5
      have hd : (((p + n : Nat) : Int) != (doc.size : Int)) = false := by simp; omega
      have hd2 : (((p + n : Nat) : Int) == (doc.size : Int)) = true := by simp; omega
      go_wp2_with fail
      refine (zzconsume_no _ _ doc (p + n) line (hP.drewN _) HN.out (by omega)).mono ?_
      rintro e w6 ⟨q6, rfl, rfl⟩
      go_wp2_with fail
      refine (pos_any _ _ doc (p + n) line (hP.drewN _)).mono ?_
      rintro e w7 ⟨rfl, hw7⟩
      subst hw7
      go_wp2_with fail
      refine (line_any _ _ doc (p + n) line (hP.drewN _)).mono ?_
      rintro e w8 ⟨rfl, hw8⟩
      subst hw8
      go_wp2
      go_ret
      exact ⟨by simp, below_drewN' hnx _⟩

end Go.Proofs.Qxb6604678a
