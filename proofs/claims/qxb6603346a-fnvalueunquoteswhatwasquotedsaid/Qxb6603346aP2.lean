import Derived.Test.Qxb6603346aP1
import Derived.Deep.RegionHeld3
import Derived.Deep.QuietTactic
namespace Go.Proofs.Qxb6603346a
open Go.RowKit

set_option maxHeartbeats 400000 in
theorem done_no (sb : Nat) (S : ByteArray) (p : Nat) (w : World) (c0 : w.cell? ⟨sb, 0, none⟩ = some (.string S)) (c1 : w.cell? ⟨sb, 1, none⟩ = some (.int .i64 p)) (h : p < S.size) :
    Calls Try.prog 14 #[.pointer (some ⟨sb, 0, none⟩)] w fun e w' => e = .returned (.bool false) ∧ ∃ n, w' = w.drewN n := by
  have h' : decide (S.size ≤ p) = false := by simp; omega
  go_enter Try.func14, Try.ntmps14
  go_wp2
  go_quiet (fail)
  go_wp2
  go_ret
  exact ⟨rfl, nq, rfl⟩

theorem done_q (sb : Nat) (S : ByteArray) (p : Nat) (w : World) (c0 : w.cell? ⟨sb, 0, none⟩ = some (.string S)) (c1 : w.cell? ⟨sb, 1, none⟩ = some (.int .i64 p)) (h : p < S.size) (n : Nat) :
    Calls Try.prog 14 #[.pointer (some ⟨sb, 0, none⟩)] (w.drewN n) fun e w'' => e = .returned (.bool false) ∧ ∃ m, w'' = w.drewN m :=
  Calls.quiet_of (done_no sb S p _ (by simpa using c0) (by simpa using c1) h)

set_option maxHeartbeats 400000 in
theorem consume_yes (sb : Nat) (S : ByteArray) (p : Nat) (w : World) (c0 : w.cell? ⟨sb, 0, none⟩ = some (.string S)) (c1 : w.cell? ⟨sb, 1, none⟩ = some (.int .i64 p))
    (f1 : w.frozen? ⟨sb, 1, none⟩ = false) (h : p < S.size) (hs : S.size ≤ 10000000) (hq : ((S[p].toNat : Int) != 34) = false) :
    Calls Try.prog 12 #[.pointer (some ⟨sb, 0, none⟩), .int .u8 34] w fun e w' => e = .returned (.bool true) ∧ ∃ n, w' = (w.drewN n).setCell ⟨sb, 1, none⟩ (.int .i64 ((p : Int) + 1)) := by
  have b1 : (p : Int) < (S.size : Int) := by omega
  go_enter Try.func12, Try.ntmps12
  go_wp2_with fail
  go_quiet ((go_at_call 14; exact done_q sb S p _ c0 c1 h _))
  go_wp2
  go_ret
  exact ⟨rfl, nq, rfl⟩

def Scan (sb : Nat) (S : ByteArray) (p : Nat) (w : World) : Prop := w.heap[sb]? = some (.cells #[.string S, .int .i64 p] 30 (0, 0))

theorem Scan.c0 {sb : Nat} {S : ByteArray} {p : Nat} {w : World} (h : Scan sb S p w) : w.cell? ⟨sb, 0, none⟩ = some (.string S) := by rw [Lib.cell_of_heap h]; rfl
theorem Scan.c1 {sb : Nat} {S : ByteArray} {p : Nat} {w : World} (h : Scan sb S p w) : w.cell? ⟨sb, 1, none⟩ = some (.int .i64 p) := by rw [Lib.cell_of_heap h]; rfl
theorem Scan.f1 {sb : Nat} {S : ByteArray} {p : Nat} {w : World} (h : Scan sb S p w) : w.frozen? ⟨sb, 1, none⟩ = false := Lib.frozen_of_heap h 1
theorem Scan.lt {sb : Nat} {S : ByteArray} {p : Nat} {w : World} (h : Scan sb S p w) : sb < w.heap.size := by
  rcases Nat.lt_or_ge sb w.heap.size with h' | h'
  · exact h'
  · simp [Scan, Array.getElem?_eq_none h'] at h
theorem Scan.next {sb : Nat} {S : ByteArray} {p : Nat} {w : World} (h : Scan sb S p w) : Scan sb S (p + 1) (w.setCell ⟨sb, 1, none⟩ (.int .i64 ((p : Int) + 1))) := by
  have hl := h.lt
  unfold Scan at h ⊢
  simp [World.setCell, Array.getElem?_modify, h]

theorem builder_above {B b : Nat} {bs : List Value} {w w' : World} (h : Lib.IsBuilderF 35 5 B b bs w) (hk : ∀ k, B ≤ k → w'.heap[k]? = w.heap[k]?) : Lib.IsBuilderF 35 5 B b bs w' := by
  have key : ∀ q, Lib.BuilderAtF 35 5 B b q bs w → Lib.BuilderAtF 35 5 B b q bs w' := by
    rintro q ⟨hB, v, hb, ⟨hl, ho⟩, hne⟩
    refine ⟨hB, v, (hk b hB).trans hb, ⟨hl, ?_⟩, hne⟩
    rcases ho with ho | ⟨g, cap, cur, fz, h1, h2, h3, h4⟩
    · exact .inl ho
    · exact .inr ⟨g, cap, cur, fz, h1, h2, (hk g h2).trans h3, h4⟩
  rcases h with h | h
  · exact .inl (key _ h)
  · exact .inr (key _ h)

structure Inv (w0 : World) (sb B : Nat) (S : ByteArray) (p : Nat) (bs : List UInt8) (w : World) : Prop where
  scan : Scan sb S p w
  bld : Lib.IsBuilderF 35 5 B B (Lib.byteCells bs) w
  below : Below sb w0 w
  lt : sb < B
  le : B ≤ w.heap.size

theorem Inv.drewN {w0 : World} {sb B : Nat} {S : ByteArray} {p : Nat} {bs : List UInt8} {w : World} (h : Inv w0 sb B S p bs w) (n : Nat) : Inv w0 sb B S p bs (w.drewN n) :=
  ⟨h.scan, h.bld, ⟨h.below.os, h.below.tape, h.below.output, h.below.size, h.below.block⟩, h.lt, h.le⟩

theorem Inv.next {w0 : World} {sb B : Nat} {S : ByteArray} {p : Nat} {bs : List UInt8} {w : World} (h : Inv w0 sb B S p bs w) : Inv w0 sb B S (p + 1) bs (w.setCell ⟨sb, 1, none⟩ (.int .i64 ((p : Int) + 1))) := by
  have hlt := h.lt
  refine ⟨h.scan.next, builder_above h.bld (fun k hk => Below.heap_setCell _ _ _ _ (by simp; omega)), h.below.setCell (Nat.le_refl _) _, h.lt, by simpa [World.setCell] using h.le⟩

theorem Inv.wrote {w0 : World} {sb B : Nat} {S : ByteArray} {p : Nat} {bs : List UInt8} {w w' : World} (h : Inv w0 sb B S p bs w) (c : UInt8)
    (hb : Lib.BuilderAtF 35 5 B B (.pointer (some ⟨B, 0, none⟩)) (Lib.byteCells bs ++ [.int .u8 c.toNat]) w') (hbel : Below B w w') : Inv w0 sb B S p (bs ++ [c]) w' := by
  have hlt := h.lt
  refine ⟨(hbel.block sb h.lt).trans h.scan, .inr ?_, h.below.trans (hbel.mono (by omega)), h.lt, Nat.le_trans h.le hbel.size⟩
  rw [Lib.byteCells_append]; exact hb

end Go.Proofs.Qxb6603346a
