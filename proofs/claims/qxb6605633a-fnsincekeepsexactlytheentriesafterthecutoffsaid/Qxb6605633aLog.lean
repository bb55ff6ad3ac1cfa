/-
  ZZnewUnitLog: a log whose entries carry the instants and the units.
-/
import Derived.Test.Qxb6605633aData2
import Derived.Deep.RegionHeld3
import Derived.Maps.AppendAt
namespace Go.Proofs.Qxb6605633a
open Go.RowKit

theorem Try.info45 : (Try.prog.info? 45).map (fun i => (i.zero, i.size, i.bytes)) = some (some (.agg #[.int .u64 0, .int .i64 0, .pointer none, .int .i64 0]), 4, 32) := by kernel_rfl

/-- append WITHIN THE CAPACITY, as one step of a region that draws its order. -/
theorem step_append_fits {P : Program} {ops : Array Oper} {o : Oper} {a : Act} {w : World} {K : Act → World → Prop} {Q : Exit → Act → World → Prop} {E : Prop}
    (hgd : o.guard = none) (s x : Operand) (t : TypeId) (hop : o.op = Op.call { callee := Callee.builtin Builtin.append, args := #[s, x], argTypes := #[t, t] })
    (base : Nat) (e : TypeId) (i : TypeInfo) (size : Nat) (h1 : P.underlying t = some (.slice e)) (h2 : P.info? e = some i) (h4 : i.size = size)
    (g k cap : Nat) (xs : List Value) (hs : a.eval s = .slice (some ⟨g, 0, none⟩) k cap) (hown : w.ownsRow base e size (.slice (some ⟨g, 0, none⟩) k cap) k xs) (ad : Addr) (m c : Nat) (news : List Value) (hx : a.eval x = .slice (some ad) m c) (hn : news.length = m * size)
    (hc : ∀ j u, news[j]? = some u → w.cell? (ad.add j) = some u) (h1c : ∀ u ∈ news, u.oneCell' = true) (b1 : k + m ≤ cap)
    (hK : ∀ w', w'.ownsRow base e size (.slice (some ⟨g, 0, none⟩) (k + m) cap) (k + m) (xs ++ news) → w.grownBy w' (some g) → K (a.put o.dst (.slice (some ⟨g, 0, none⟩) (k + m) cap)) w') :
    if Region.wanted o (yielded ops a.tmps) = true then Oper.wp P o a w K Q else E := by
  have hw : Region.wanted o (yielded ops a.tmps) = true := by simp [Region.wanted, hgd]
  rw [if_pos hw]
  obtain ⟨w', hrun, r1, r2⟩ := run_append_fits (P := P) w base t o.type e i size h1 h2 h4 g k cap xs hown ad m c news hn hc h1c b1
  unfold Oper.wp
  simp [execOp, hop, resolve, invoke, builtin, hs, hx, hrun, Result.andThen]
  exact hK w' r1 r2

/-- One entry's cells. -/
def E1 (z u : Int) : List Value := [.int .u64 (ia z), .int .i64 (ib z), .pointer none, .int .i64 u]
/-- The cells of the first k entries. -/
def ES (zs us : List Int) : Nat → List Value
  | 0 => []
  | k + 1 => ES zs us k ++ E1 (zs.getD k 0) (us.getD k 0)
theorem ES_length (zs us : List Int) (k : Nat) : (ES zs us k).length = k * 4 := by
  induction k with
  | zero => rfl
  | succ k ih => simp only [ES, List.length_append, ih, E1, List.length_cons, List.length_nil]; omega
theorem ES_at {zs us : List Int} {k j i : Nat} (hj : j < k) (hi : i < 4) : (ES zs us k)[j * 4 + i]? = (E1 (zs.getD j 0) (us.getD j 0))[i]? := by
  induction k with
  | zero => omega
  | succ k ih =>
    have hl := ES_length zs us k
    simp only [ES]
    by_cases e : j = k
    · subst e
      rw [List.getElem?_append_right (by omega), hl]
      congr 1; omega
    · rw [List.getElem?_append_left (by omega)]
      exact ih (by omega)
theorem E1_one (z u : Int) : ∀ v ∈ E1 z u, v.oneCell' = true := by
  intro v hv
  simp only [E1, List.mem_cons, List.not_mem_nil, or_false] at hv
  rcases hv with rfl | rfl | rfl | rfl <;> rfl

/-- n entries lie in block b from offset off on. -/
def EntsAt (w : World) (b off n : Nat) (zs us : List Int) : Prop :=
  b < w.heap.size ∧ ∀ j, j < n → w.cell? ⟨b, off + j * 4, none⟩ = some (.int .u64 (ia (zs.getD j 0))) ∧ w.cell? ⟨b, off + j * 4 + 1, none⟩ = some (.int .i64 (ib (zs.getD j 0))) ∧
    w.cell? ⟨b, off + j * 4 + 2, none⟩ = some (.pointer none) ∧ w.cell? ⟨b, off + j * 4 + 3, none⟩ = some (.int .i64 (us.getD j 0))

theorem EntsAt.below {w w' : World} {b off n : Nat} {zs us : List Int} (h : EntsAt w b off n zs us) (hb : Below w.heap.size w w') : EntsAt w' b off n zs us := by
  obtain ⟨hlt, hc⟩ := h
  refine ⟨Nat.lt_of_lt_of_le hlt hb.size, fun j hj => ?_⟩
  obtain ⟨c0, c1, c2, c3⟩ := hc j hj
  exact ⟨(hb.cell (p := ⟨b, _, none⟩) hlt).trans c0, (hb.cell (p := ⟨b, _, none⟩) hlt).trans c1, (hb.cell (p := ⟨b, _, none⟩) hlt).trans c2, (hb.cell (p := ⟨b, _, none⟩) hlt).trans c3⟩

theorem EntsAt.drop {w : World} {b off n : Nat} {zs us : List Int} (h : EntsAt w b off n zs us) (k : Nat) (hk : k ≤ n) : EntsAt w b (off + k * 4) (n - k) (zs.drop k) (us.drop k) := by
  obtain ⟨hlt, hc⟩ := h
  refine ⟨hlt, fun j hj => ?_⟩
  have e1 : (zs.drop k).getD j 0 = zs.getD (k + j) 0 := by simp [List.getD, List.getElem?_drop]
  have e2 : (us.drop k).getD j 0 = us.getD (k + j) 0 := by simp [List.getD, List.getElem?_drop]
  have e3 : off + k * 4 + j * 4 = off + (k + j) * 4 := by omega
  rw [e1, e2, e3]
  exact hc (k + j) (by omega)

theorem EntsAt.none {w : World} {b off : Nat} {zs us : List Int} (h : b < w.heap.size) : EntsAt w b off 0 zs us := ⟨h, fun j hj => absurd hj (by omega)⟩

/-- Block g holds a log of n entries. -/
def LogAt (w : World) (g n : Nat) (zs us : List Int) (tot : Int) : Prop :=
  ∃ b off, g < w.heap.size ∧ w.cell? ⟨g, 0, none⟩ = some (.slice (some ⟨b, off, none⟩) n n) ∧ w.cell? ⟨g, 1, none⟩ = some (.int .i64 tot) ∧ w.cell? ⟨g, 2, none⟩ = some (.int .u32 0) ∧ EntsAt w b off n zs us

theorem LogAt.below {w w' : World} {g n : Nat} {zs us : List Int} {tot : Int} (h : LogAt w g n zs us tot) (hb : Below w.heap.size w w') : LogAt w' g n zs us tot := by
  obtain ⟨b, off, hlt, h0, h1, h2, he⟩ := h
  exact ⟨b, off, Nat.lt_of_lt_of_le hlt hb.size, (hb.cell (p := ⟨g, 0, none⟩) hlt).trans h0, (hb.cell (p := ⟨g, 1, none⟩) hlt).trans h1, (hb.cell (p := ⟨g, 2, none⟩) hlt).trans h2, he.below hb⟩

/-- What ZZnewUnitLog leaves. -/
def Logged (w : World) (n : Nat) (zs us : List Int) (tot : Int) (e : Ending) (w' : World) : Prop :=
  ∃ g, e = .returned (.pointer (some ⟨g, 0, none⟩)) ∧ LogAt w' g n zs us tot ∧ Below w.heap.size w w'

/-- All of zs are int64s. -/
def Wide (zs : List Int) : Prop := ∀ j, -9223372036854775808 ≤ zs.getD j 0 ∧ zs.getD j 0 ≤ 9223372036854775807

/-- The entries of a row that is filled, read behind one block more. -/
theorem ents_of {w : World} {B n cap : Nat} {zs us : List Int} {o : Obj} (h : w.ownsRow B 45 4 (.slice (some ⟨B, 0, none⟩) n cap) n (ES zs us n)) : EntsAt (w.alloc o) B 0 n zs us := by
  have h' := h.alloc o
  refine ⟨(h'.lt B rfl).2, fun j hj => ?_⟩
  have r : ∀ i, i < 4 → (w.alloc o).cell? ⟨B, 0 + j * 4 + i, none⟩ = (E1 (zs.getD j 0) (us.getD j 0))[i]? := fun i hi => by
    rw [Nat.zero_add, h'.cellAt (j * 4 + i) (by omega)]; exact ES_at hj hi
  exact ⟨r 0 (by omega), r 1 (by omega), r 2 (by omega), r 3 (by omega)⟩

theorem cell_alloc {w : World} {p : Addr} {v : Value} {o : Obj} (h : w.cell? p = some v) : (w.alloc o).cell? p = some v :=
  (Below.cell ((Below.refl w.heap.size w).alloc (Nat.le_refl _) o) (World.block_lt_of_cell? w p h)).trans h

theorem owns_below {w wd w' : World} {B : Nat} {t : TypeId} {size : Nat} {v : Value} {n : Nat} {xs : List Value} (h : w.ownsRow B t size v n xs) (hb : Below wd.heap.size wd w') (hd : wd.heap = w.heap := by rfl) : w'.ownsRow B t size v n xs := by
  have hl := h.lt
  obtain ⟨h1, h2⟩ := h
  refine ⟨h1, ?_⟩
  rcases h2 with h2 | ⟨g, cap, cur, hv, hg, hh, r⟩
  · exact .inl h2
  · refine .inr ⟨g, cap, cur, hv, hg, ?_, r⟩
    have hlt := (hl g (by rw [hv]; rfl)).2
    rw [hb.block g (by rw [hd]; exact hlt), hd]; exact hh

theorem new_entry (w : World) (z u : Int) : ∀ j v, (E1 z u)[j]? = some v → (w.alloc (.cells #[.int .u64 (ia z), .int .i64 (ib z), .pointer none, .int .i64 u] 45)).cell? ((⟨w.heap.size, 0, none⟩ : Addr).add j) = some v := by
  intro j v hv
  have hadd : (⟨w.heap.size, 0, none⟩ : Addr).add j = ⟨w.heap.size, j, none⟩ := by unfold Addr.add; split <;> simp_all
  rw [hadd, cell_of_row _ w.heap.size j _ 45 (0, 0) (heap_alloc_new w _)]
  simpa [E1] using hv

set_option maxRecDepth 100000 in
set_option maxHeartbeats 2000000 in
theorem log_some (b off n cap : Nat) (zs : List Int) (b' off' cap' : Nat) (us : List Int) (tot : Int) (w : World) (hn : n ≤ 131072) (hb : b < w.heap.size) (hb' : b' < w.heap.size)
    (hc : ∀ j, j < n → w.cell? ⟨b, off + j, none⟩ = some (.int .i64 (zs.getD j 0))) (hc' : ∀ j, j < n → w.cell? ⟨b', off' + j, none⟩ = some (.int .i64 (us.getD j 0))) (hwz : Wide zs) :
    Calls Try.prog 8 #[.slice (some ⟨b, off, none⟩) n cap, .slice (some ⟨b', off', none⟩) n cap', .int .i64 tot] w fun e w' => Logged w n zs us tot e w' := by
  obtain ⟨i0, hi, hz0, hz1, hz2⟩ := info_parts Try.info45
  go_enter Try.func8, Try.ntmps8
  go_wp2_with (at_make; refine wpList_make_own _ rfl _ _ 38 rfl w.heap.size 45 i0 (.agg #[.int .u64 0, .int .i64 0, .pointer none, .int .i64 0]) 4 Try.underlying38 hi hz0 hz1 _ _ _ n rfl rfl rfl (by rw [hz2]; omega) (by unfold maxLen; omega) (Nat.le_refl _) ?_; intro w1 hown hgrow)
  go_loopw [7, 8] (fun v i wr => ∃ k : Nat, k ≤ n ∧ i = .int .i64 k ∧ v = .slice (some ⟨w.heap.size, 0, none⟩) k n ∧ wr.ownsRow w.heap.size 45 4 (.slice (some ⟨w.heap.size, 0, none⟩) k n) k (ES zs us k) ∧ Below w.heap.size w wr)
    (fun _ i _ => n - (intOf i).toNat)
  case atStart => exact ⟨0, Nat.zero_le _, rfl, rfl, hown, (Below.refl _ _).grown hgrow (Nat.le_refl _) (fun k hk => by cases hk)⟩
  case round =>
    clear hown hgrow
    obtain ⟨k, hk, rfl, rfl, hox, hnx⟩ := hrel
    have hsz := hnx.size
    by_cases hlt : k < n
    · have hcz : wr.cell? ⟨b, off + k, none⟩ = some (.int .i64 (zs.getD k 0)) := (hnx.cell (p := ⟨b, off + k, none⟩) hb).trans (hc k hlt)
      have hcu : wr.cell? ⟨b', off' + k, none⟩ = some (.int .i64 (us.getD k 0)) := (hnx.cell (p := ⟨b', off' + k, none⟩) hb').trans (hc' k hlt)
      obtain ⟨hw1, hw2⟩ := hwz k
      have HE : Hid (ES zs us (k + 1) = ES zs us k ++ E1 (zs.getD k 0) (us.getD k 0)) := rfl
      generalize zs.getD k 0 = z at hcz hw1 hw2 HE
      generalize us.getD k 0 = u at hcu HE
      have hi1 : (0 : Int) ≤ (k : Int) := by omega
      have hi2 : (k : Int) < (n : Int) := by omega
      have hbr : b < wr.heap.size := by omega
      have hbr' : b' < wr.heap.size := by omega
      clear hc hc' hwz
      go_wp2_with fail
      go_region_held3 (fun w' => w'.cell? ⟨b, off + k, none⟩ = some (.int .i64 z) ∧ w'.cell? ⟨b', off' + k, none⟩ = some (.int .i64 u)) (go_keep)
        (first
          | (refine step_append_fits rfl _ _ 38 rfl w.heap.size 45 i0 4 Try.underlying38 hi hz1 w.heap.size k n _ rfl (hox2.alloc _) ⟨w2.heap.size, 0, none⟩ 1 1 (E1 z u) rfl rfl (new_entry _ _ _) (E1_one z u) (by omega) ?_; intro w3 hown3 hgrow3; have hcz3 := hgrow3.cell (cell_alloc hcz2) (by simp; omega); have hcu3 := hgrow3.cell (cell_alloc hcu2) (by simp; omega))
          | (go_at_call 18; refine (instant_any _ z hw1 hw2).mono ?_; rintro e w2 ⟨rfl, pb⟩; have hcz2 := (pb.cell (p := ⟨b, off + k, none⟩) hbr).trans hcz; have hcu2 := (pb.cell (p := ⟨b', off' + k, none⟩) hbr').trans hcu; have hox2 := owns_below hox pb; have hbr2 := Nat.lt_of_lt_of_le hbr pb.size; have hbr3 := Nat.lt_of_lt_of_le hbr' pb.size))
      have hbw2 : Below w.heap.size w w2 := hnx.drew.trans (pb.mono hsz)
      have hbw3 : Below w.heap.size w w3 := (hbw2.alloc hbw2.size _).grown hgrow3 (by have := hbw2.size; simp; omega) (fun j hj => by cases hj; exact Nat.le_refl _)
      clear hcz hcu hcz2 hcu2 hcz3 hcu3 pb hbw2 hgrow3 hox2 hbr2 hbr3
      go_wp2
      go_roundw
      case rel => exact ⟨k + 1, by omega, by go_num, rfl, by rw [HE.out]; exact hown3, hbw3⟩
      case measure => simp [intOf]; omega
    · have hk' : n = k := by omega
      subst hk'
      clear hc hc' hwz
      go_wp2
      go_ret
      refine ⟨_, rfl, ⟨w.heap.size, 0, ?_, ?_, ?_, ?_, ?_⟩, hnx.alloc hsz _⟩
      · simp
      · simp
      · simp
      · simp
      · exact ents_of hox

set_option maxRecDepth 100000 in
set_option maxHeartbeats 2000000 in
theorem log_none (a a' : Option Addr) (cap cap' : Nat) (zs us : List Int) (tot : Int) (w : World) :
    Calls Try.prog 8 #[.slice a 0 cap, .slice a' 0 cap', .int .i64 tot] w fun e w' => Logged w 0 zs us tot e w' := by
  obtain ⟨i0, hi, hz0, hz1, hz2⟩ := info_parts Try.info45
  go_enter Try.func8, Try.ntmps8
  go_wp2_with (at_make; refine wpList_make_own _ rfl _ _ 38 rfl w.heap.size 45 i0 (.agg #[.int .u64 0, .int .i64 0, .pointer none, .int .i64 0]) 4 Try.underlying38 hi hz0 hz1 _ _ _ 0 rfl rfl rfl (by omega) (Nat.zero_le _) (Nat.le_refl _) ?_; intro w1 hown hgrow)
  refine wp_loop_rounds 1 ?_
  rw [rounds_succ]
  go_wp2
  go_ret
  have hnx : Below w.heap.size w w1 := (Below.refl _ _).grown hgrow (Nat.le_refl _) (fun k hk => by cases hk)
  refine ⟨_, rfl, ⟨w.heap.size, 0, ?_, ?_, ?_, ?_, .none (by have := (hown.lt w.heap.size rfl).2; simp; omega)⟩, hnx.alloc hnx.size _⟩
  · simp
  · simp
  · simp
  · simp

theorem log_any (a : Option Addr) (n cap : Nat) (zs : List Int) (a' : Option Addr) (cap' : Nat) (us : List Int) (tot : Int) (w : World) (hn : n ≤ 131072) (hs : IntsAt w a n zs) (hu : IntsAt w a' n us) (hwz : Wide zs) :
    Calls Try.prog 8 #[.slice a n cap, .slice a' n cap', .int .i64 tot] w fun e w' => Logged w n zs us tot e w' := by
  rcases Nat.eq_zero_or_pos n with h | h
  · subst h; exact log_none a a' cap cap' zs us tot w
  · obtain ⟨b, off, ha, hb, hc⟩ := hs h
    obtain ⟨b', off', ha', hb', hc'⟩ := hu h
    subst ha; subst ha'
    exact log_some b off n cap zs b' off' cap' us tot w hn hb hb' hc hc' hwz

end Go.Proofs.Qxb6605633a
