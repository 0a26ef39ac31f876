import Derived.Test.Qxb6603470aP1
namespace Go.Proofs.Qxb6603470a
open Go.RowKit

structure SInv (w0 : World) (base : Nat) (v0 : Value) (f0 out : List (List UInt8)) (v : Value) (cur : List UInt8) (w : World) : Prop where
  fld : Fld w0 base v0 f0 out v w
  bld : Lib.IsBuilderF 77 5 w0.heap.size w0.heap.size (Lib.byteCells cur) w
  le : w0.heap.size ≤ w.heap.size

section
variable {w0 : World} {base : Nat} {v0 : Value} {f0 out : List (List UInt8)} {v : Value} {cur : List UInt8} {w w' : World}

theorem SInv.wrote (h : SInv w0 base v0 f0 out v cur w) (c : UInt8)
    (hb : Lib.BuilderAtF 77 5 w0.heap.size w0.heap.size (.pointer (some ⟨w0.heap.size, 0, none⟩)) (Lib.byteCells cur ++ [.int .u8 c.toNat]) w') (hbel : Below w0.heap.size w w') (hk : Lib.OthersKept 5 (some w0.heap.size) w w') :
    SInv w0 base v0 f0 out v (cur ++ [c]) w' := by
  obtain ⟨p, q, hblk⟩ := Bld.block h.bld
  refine ⟨h.fld.keep hblk (Nat.le_refl _) hbel hk, .inr ?_, Nat.le_trans h.le hbel.size⟩
  rw [Lib.byteCells_append]; exact hb

theorem SInv.wroteS (h : SInv w0 base v0 f0 out v [] w) (s : ByteArray)
    (hb : Lib.BuilderAtF 77 5 w0.heap.size w0.heap.size (.pointer (some ⟨w0.heap.size, 0, none⟩)) (Lib.byteCells [] ++ Lib.strCells s) w') (hbel : Below w0.heap.size w w') (hk : Lib.OthersKept 5 (some w0.heap.size) w w') :
    SInv w0 base v0 f0 out v s.data.toList w' := by
  obtain ⟨p, q, hblk⟩ := Bld.block h.bld
  refine ⟨h.fld.keep hblk (Nat.le_refl _) hbel hk, .inr ?_, Nat.le_trans h.le hbel.size⟩
  rw [← Lib.strCells_eq]; exact hb

theorem SInv.reset {p q : Value} (h : Fld w0 base v0 f0 out v w) (hb : w.heap[w0.heap.size]? = some (.cells #[p, q] 77 (0, 0))) :
    SInv w0 base v0 f0 out v [] ((w.setCell ⟨w0.heap.size, 0, none⟩ (.pointer none)).setCell ⟨w0.heap.size, 1, none⟩ (.slice none 0 0)) := by
  have hbel : Below w0.heap.size w ((w.setCell ⟨w0.heap.size, 0, none⟩ (.pointer none)).setCell ⟨w0.heap.size, 1, none⟩ (.slice none 0 0)) := ((Below.refl w0.heap.size w).setCell (p := ⟨w0.heap.size, 0, none⟩) (Nat.le_refl _) _).setCell (p := ⟨w0.heap.size, 1, none⟩) (Nat.le_refl _) _
  have hk : Lib.OthersKept 5 (some w0.heap.size) w ((w.setCell ⟨w0.heap.size, 0, none⟩ (.pointer none)).setCell ⟨w0.heap.size, 1, none⟩ (.slice none 0 0)) :=
    ((Lib.OthersKept.refl _ _ w).setCell ⟨w0.heap.size, 0, none⟩ rfl _).setCell ⟨w0.heap.size, 1, none⟩ rfl _
  have hlt := lt_of_heap hb
  refine ⟨h.keep hb (Nat.le_refl _) hbel hk, .inl ⟨Nat.le_refl _, .slice none 0 0, ?_, World.ownsRowF_nil _ _ _ _, by simp [Value.ownBlock]⟩, by simp [World.setCell]; omega⟩
  simp [World.setCell, Array.getElem?_modify, hb]

theorem SInv.string (h : SInv w0 base v0 f0 out v cur w) (hb : Lib.IsBuilderF 77 5 w0.heap.size w0.heap.size (Lib.byteCells cur) w') (hbel : Below w0.heap.size w w') (hk : Lib.OthersKept 5 (some w0.heap.size) w w') :
    SInv w0 base v0 f0 out v cur w' := by
  obtain ⟨p, q, hblk⟩ := Bld.block h.bld
  exact ⟨h.fld.keep hblk (Nat.le_refl _) hbel hk, hb, Nat.le_trans h.le hbel.size⟩

theorem blk_grown {p q : Value} (h : Fld w0 base v0 f0 out v w) (hb : w.heap[w0.heap.size]? = some (.cells #[p, q] 77 (0, 0))) (hg : w.grownBy w' v.ownBlock) :
    w'.heap[w0.heap.size]? = some (.cells #[p, q] 77 (0, 0)) := by
  rw [hg.block _ (lt_of_heap hb) (own_ne h.own hb (by decide))]; exact hb

structure Outer (w0 : World) (base : Nat) (v0 : Value) (f0 : List (List UInt8)) (line : ByteArray) (R : List (List UInt8) × UInt8) (v : Value) (k : Nat) (out : List (List UInt8)) (w : World) : Prop where
  fld : Fld w0 base v0 f0 out v w
  blk : ∃ p q, w.heap[w0.heap.size]? = some (.cells #[p, q] 77 (0, 0))
  r : R = run (line.data.toList.drop k) 0 false false [] out
  len : out.length ≤ k

theorem Outer.start {line : ByteArray} (hown : w0.ownsRow base 9 1 v0 f0.length (strs f0)) :
    Outer w0 base v0 f0 line (run line.data.toList 0 false false [] []) v0 0 [] (w0.alloc (.cells #[.pointer none, .slice none 0 0] 77)) := by
  refine ⟨⟨?_, ⟨rfl, rfl, rfl, by simp, fun k hk _ => Below.heap_alloc _ _ _ hk⟩, .inl rfl, by simp⟩, ⟨_, _, heap_alloc_new w0 _⟩, by simp, Nat.le_refl _⟩
  simpa using hown.alloc _

end
end Go.Proofs.Qxb6603470a
