/-
  The parser's small methods: peek, consume, and what hands them out.
-/
import Derived.Test.Qxb6604678aRows
import Derived.WalkKit
import Derived.WalkSpells
import Derived.WalkLawsBesides
import Derived.Deep.QuietTactic
import Derived.BigQuiet
namespace Go.Proofs.Qxb6604678a
open Go.RowKit

/-- The byte at p; 0 at the end. -/
def byteAt (doc : ByteArray) (p : Nat) : Int := if h : p < doc.size then (doc[p].toNat : Int) else 0
theorem byteAt_lt {doc : ByteArray} {p : Nat} (h : p < doc.size) : byteAt doc p = (doc[p].toNat : Int) := by simp [byteAt, h]
theorem byteAt_end {doc : ByteArray} {p : Nat} (h : ¬ p < doc.size) : byteAt doc p = 0 := by simp [byteAt, h]

/-- Block g holds a parser. -/
structure PAt (w : World) (g : Nat) (doc : ByteArray) (p : Nat) (line : Int) : Prop where
  doc : w.cell? ⟨g, 0, none⟩ = some (.string doc)
  pos : w.cell? ⟨g, 1, none⟩ = some (.int .i64 (p : Int))
  line : w.cell? ⟨g, 2, none⟩ = some (.int .i64 line)
  fr : w.frozen? ⟨g, 1, none⟩ = false

theorem PAt.drewN {w : World} {g : Nat} {doc : ByteArray} {p : Nat} {line : Int} (h : PAt w g doc p line) (q : Nat) : PAt (w.drewN q) g doc p line := ⟨h.doc, h.pos, h.line, h.fr⟩

/-- The byte comes back; the world has at most drawn. -/
def Peeked (w : World) (doc : ByteArray) (p : Nat) (e : Ending) (w' : World) : Prop := ∃ q, e = .returned (.int .u8 (byteAt doc p)) ∧ w' = w.drewN q

theorem ret_int {k : IntKind} {a b : Int} (h : a = b) : Ending.returned (.int k a) = .returned (.int k b) := by rw [h]

set_option maxHeartbeats 400000 in
theorem peek_any (w : World) (g : Nat) (doc : ByteArray) (p : Nat) (line : Int) (hP : PAt w g doc p line) (hp : p ≤ doc.size) (_hs : doc.size ≤ 65536) :
    Calls Try.prog 10 #[.pointer (some ⟨g, 0, none⟩)] w fun e w' => Peeked w doc p e w' := by
  obtain ⟨h0, h1, h2, hf⟩ := hP
  by_cases hlt : p < doc.size
  · have hne : ((p : Int) == (doc.size : Int)) = false := by simp; omega
    have hi : (p : Int) < (doc.size : Int) := by omega
    go_enter Try.func10, Try.ntmps10
    go_wp2
    go_quiet (fail)
    go_wp2
    go_quiet (fail)
    go_wp2
    go_ret
    exact ⟨_, ret_int (byteAt_lt hlt).symm, World.drewN_drewN _ _ _⟩
  · have he : p = doc.size := by omega
    subst he
    go_enter Try.func10, Try.ntmps10
    go_wp2
    go_quiet (fail)
    go_wp2
    go_ret
    exact ⟨_, ret_int (byteAt_end hlt).symm, rfl⟩

set_option maxHeartbeats 400000 in
theorem zzpeek_any (w : World) (g : Nat) (doc : ByteArray) (p : Nat) (line : Int) (hP : PAt w g doc p line) (hp : p ≤ doc.size) (hs : doc.size ≤ 65536) :
    Calls Try.prog 6 #[.pointer (some ⟨g, 0, none⟩)] w fun e w' => Peeked w doc p e w' := by
  go_enter Try.func6, Try.ntmps6
  go_wp2_with fail
  refine (peek_any w g doc p line hP hp hs).mono ?_
  rintro e w' ⟨q, rfl, rfl⟩
  go_wp2
  go_ret
  exact ⟨q, rfl, rfl⟩

/-- Consumed: the position has moved by one; nothing but the parser's block has turned. -/
def Consumed (w : World) (g : Nat) (doc : ByteArray) (p : Nat) (line : Int) (e : Ending) (w' : World) : Prop :=
  e = .returned (.bool true) ∧ PAt w' g doc (p + 1) line ∧ w.grownBy w' (some g)
/-- Refused: nothing has turned. -/
def Refused (w : World) (e : Ending) (w' : World) : Prop := ∃ q, e = .returned (.bool false) ∧ w' = w.drewN q

theorem PAt.moved {w : World} {g : Nat} {doc : ByteArray} {p : Nat} {line : Int} (h : PAt w g doc p line) (q : Nat) :
    PAt ((w.drewN q).setCell ⟨g, 1, none⟩ (.int .i64 ((p : Int) + 1))) g doc (p + 1) line ∧ w.grownBy ((w.drewN q).setCell ⟨g, 1, none⟩ (.int .i64 ((p : Int) + 1))) (some g) := by
  obtain ⟨h0, h1, h2, hf⟩ := h.drewN q
  refine ⟨⟨?_, ?_, ?_, ?_⟩, ⟨rfl, rfl, rfl, by simp [World.setCell], fun k _ hk => ?_⟩⟩
  · rw [World.cell?_setCell_other]; exact h0; simp
  · rw [World.cell?_setCell_same _ _ _ h1]; simp
  · rw [World.cell?_setCell_other]; exact h2; simp
  · rw [World.frozen?_setCell]; exact hf
  · rw [Below.heap_setCell _ _ _ _ (fun e => hk (by simp [e]))]; rfl

set_option maxHeartbeats 400000 in
theorem consume_yes (w : World) (g : Nat) (doc : ByteArray) (p : Nat) (line : Int) (hP : PAt w g doc p line) (hp : p < doc.size) (hs : doc.size ≤ 65536) :
    Calls Try.prog 11 #[.pointer (some ⟨g, 0, none⟩), .int .u8 (byteAt doc p)] w fun e w' => Consumed w g doc p line e w' := by
  have hm := hP.moved
  go_enter Try.func11, Try.ntmps11
  go_wp2_with fail
  refine (peek_any w g doc p line hP (by omega) hs).mono ?_
  rintro e w' ⟨q, rfl, rfl⟩
  obtain ⟨h0, h1, h2, hf⟩ := hP
  go_wp2
  go_ret
  exact ⟨rfl, (hm q).1, (hm q).2⟩

set_option maxHeartbeats 400000 in
theorem consume_no (w : World) (g : Nat) (doc : ByteArray) (p : Nat) (line : Int) (hP : PAt w g doc p line) (hp : p = doc.size) (hs : doc.size ≤ 65536) :
    Calls Try.prog 11 #[.pointer (some ⟨g, 0, none⟩), .int .u8 46] w fun e w' => Refused w e w' := by
  have hb : byteAt doc p = 0 := byteAt_end (by omega)
  go_enter Try.func11, Try.ntmps11
  go_wp2_with fail
  refine (peek_any w g doc p line hP (by omega) hs).mono ?_
  rintro e w' ⟨q, rfl, rfl⟩
  rw [hb]
  clear hb hp
  go_wp2
  go_ret
  exact ⟨q, rfl, rfl⟩

set_option maxHeartbeats 400000 in
theorem zzconsume_yes (w : World) (g : Nat) (doc : ByteArray) (p : Nat) (line : Int) (hP : PAt w g doc p line) (hp : p < doc.size) (hs : doc.size ≤ 65536) :
    Calls Try.prog 7 #[.pointer (some ⟨g, 0, none⟩), .int .u8 (byteAt doc p)] w fun e w' => Consumed w g doc p line e w' := by
  go_enter Try.func7, Try.ntmps7
  go_wp2_with fail
  refine (consume_yes w g doc p line hP hp hs).mono ?_
  rintro e w' ⟨rfl, h1, h2⟩
  go_wp2
  go_ret
  exact ⟨rfl, h1, h2⟩

set_option maxHeartbeats 400000 in
theorem zzconsume_no (w : World) (g : Nat) (doc : ByteArray) (p : Nat) (line : Int) (hP : PAt w g doc p line) (hp : p = doc.size) (hs : doc.size ≤ 65536) :
    Calls Try.prog 7 #[.pointer (some ⟨g, 0, none⟩), .int .u8 46] w fun e w' => Refused w e w' := by
  go_enter Try.func7, Try.ntmps7
  go_wp2_with fail
  refine (consume_no w g doc p line hP hp hs).mono ?_
  rintro e w' ⟨q, rfl, rfl⟩
  go_wp2
  go_ret
  exact ⟨q, rfl, rfl⟩

theorem pos_any (w : World) (g : Nat) (doc : ByteArray) (p : Nat) (line : Int) (hP : PAt w g doc p line) :
    Calls Try.prog 8 #[.pointer (some ⟨g, 0, none⟩)] w fun e w' => e = .returned (.int .i64 (p : Int)) ∧ w' = w := by
  obtain ⟨h0, h1, h2, hf⟩ := hP
  go_enter Try.func8, Try.ntmps8
  go_wp2
  go_ret
  exact ⟨rfl, rfl⟩

theorem line_any (w : World) (g : Nat) (doc : ByteArray) (p : Nat) (line : Int) (hP : PAt w g doc p line) :
    Calls Try.prog 9 #[.pointer (some ⟨g, 0, none⟩)] w fun e w' => e = .returned (.int .i64 line) ∧ w' = w := by
  obtain ⟨h0, h1, h2, hf⟩ := hP
  go_enter Try.func9, Try.ntmps9
  go_wp2
  go_ret
  exact ⟨rfl, rfl⟩

/-- A new parser. -/
def Made (w : World) (doc : ByteArray) (p : Nat) (line : Int) (e : Ending) (w' : World) : Prop :=
  e = .returned (.pointer (some ⟨w.heap.size, 0, none⟩)) ∧ PAt w' w.heap.size doc p line ∧ w.heap.size < w'.heap.size ∧ Below w.heap.size w w'

theorem new_any (w : World) (doc : ByteArray) (p : Nat) (line : Int) :
    Calls Try.prog 5 #[.string doc, .int .i64 (p : Int), .int .i64 line] w fun e w' => Made w doc p line e w' := by
  go_enter Try.func5, Try.ntmps5
  go_wp2
  go_ret
  exact ⟨rfl, ⟨by simp, by simp, by simp, by simp⟩, by simp, (Below.refl _ _).alloc (Nat.le_refl _) _⟩

/-- Some bool comes back. -/
def RetB (e : Ending) : Prop := ∃ x, e = .returned (.bool x)
theorem bytes_any (w : World) (doc : ByteArray) (p line : Int) (hs : doc.size ≤ maxLen) :
    Calls Try.prog 4 #[.string doc, .int .i64 p, .int .i64 line] w fun e w' => RetB e ∧ w' = w := by
  unfold maxLen at hs
  go_enter Try.func4, Try.ntmps4
  go_wp2
  all_goals (go_ret; exact ⟨⟨_, rfl⟩, rfl⟩)

end Go.Proofs.Qxb6604678a
