import Derived.Test.Qxb6603470aRows
import Derived.Test.Qxb6603470aShelf
import Derived.Test.Qxb6603470aP0
import Derived.WalkKit
import Derived.WalkSpells
import Derived.BigQuiet
import Derived.Maps.AppendAt
namespace Go.Proofs.Qxb6603470a
open Go.RowKit

theorem Try.info9 : (Try.prog.info? 9).map (fun i => (i.zero, i.size, i.bytes)) = some (some (.string ⟨#[]⟩), 1, 16) := by kernel_rfl
theorem Try.info5 : (Try.prog.info? 5).map (fun i => (i.zero, i.size, i.bytes)) = some (some (.int .u8 0), 1, 1) := by kernel_rfl

def strs (ls : List (List UInt8)) : List Value := ls.map fun l => Value.string ⟨l.toArray⟩
theorem strs_len (ls : List (List UInt8)) : (strs ls).length = ls.length := by simp [strs]
theorem strs_snoc (ls : List (List UInt8)) (l : List UInt8) : strs (ls ++ [l]) = strs ls ++ [.string ⟨l.toArray⟩] := by simp [strs]

structure Fld (w0 : World) (base : Nat) (v0 : Value) (f0 out : List (List UInt8)) (v : Value) (w : World) : Prop where
  own : w.ownsRow base 9 1 v (f0 ++ out).length (strs (f0 ++ out))
  grow : w0.grownBy w v0.ownBlock
  lies : v.ownBlock = v0.ownBlock ∨ ∀ k, v.ownBlock = some k → w0.heap.size ≤ k
  isnil : v = .slice none 0 0 ↔ v0 = .slice none 0 0 ∧ out = []

theorem grownBy_refl (w : World) (row : Option Nat) : w.grownBy w row := ⟨rfl, rfl, rfl, Nat.le_refl _, fun _ _ _ => rfl⟩

theorem own_ne {w : World} {base : Nat} {v : Value} {n : Nat} {xs : List Value} (h : w.ownsRow base 9 1 v n xs) {b : Nat} {cs : Array Value} {T : TypeId} {fz : Nat × Nat}
    (hb : w.heap[b]? = some (.cells cs T fz)) (hT : T ≠ 9) : some b ≠ v.ownBlock := by
  intro e
  rcases h.2 with ⟨rfl, _⟩ | ⟨g, cap, cur, rfl, _, hg, _⟩
  · simp [Value.ownBlock] at e
  · simp only [Value.ownBlock, Option.some.injEq] at e
    subst e
    rw [hg] at hb
    simp at hb
    exact hT hb.2.1.symm

theorem lt_of_heap {w : World} {b : Nat} {o : Obj} (h : w.heap[b]? = some o) : b < w.heap.size := by
  rcases Nat.lt_or_ge b w.heap.size with h' | h'
  · exact h'
  · simp [Array.getElem?_eq_none h'] at h

theorem app_str {ops : Array Oper} {rest : List Oper} {o : Oper} {a : Act} {Q : Exit → Act → World → Prop} (hgd : o.guard = none) (s x : Operand)
    (ho : o.op = .call { callee := .builtin .append, args := #[s, x], argTypes := #[22, 22] })
    (w0 w : World) (base : Nat) (v0 v : Value) (f0 out : List (List UInt8)) (hs : a.eval s = v) (hf : Fld w0 base v0 f0 out v w) (hbase : base ≤ w0.heap.size)
    (sv : ByteArray) (str : List UInt8) (hsv : sv = ⟨str.toArray⟩)
    (hx : a.eval x = .slice (some ⟨w.heap.size, 0, none⟩) 1 1) (hlen : (f0 ++ out).length ≤ 1000000000)
    (h : ∀ v' w', Fld w0 base v0 f0 (out ++ [str]) v' w' → w.grownBy w' v.ownBlock → wpList Try.prog ops Q rest (a.put o.dst v') w') :
    wpList Try.prog ops Q (o :: rest) a (w.alloc (.cells #[.string sv] 9)) := by
  subst hsv
  obtain ⟨i0, hi, hz0, hz1, hz2⟩ := info_parts Try.info9
  have hsz := hf.grow.size
  refine wpList_append_own_at _ hgd s x 22 ho base 9 i0 (.string ⟨#[]⟩) 1 16 Try.underlying22 hi hz0 hz1 hz2 rfl (by decide) v _ _ hs (hf.own.alloc _) ⟨w.heap.size, 0, none⟩ 1 1 [.string ⟨str.toArray⟩] hx rfl ?_ ?_ ?_ ?_ ?_ ?_
  · intro j u hj
    match j, hj with
    | 0, hj => simp at hj; subst hj; simp [Addr.add]
  · intro u hu; simp at hu; subst hu; rfl
  · unfold maxLen; omega
  · omega
  · simp; omega
  · intro v' w' h1 hg hn hat
    have hgw : w.grownBy w' v.ownBlock := by
      refine ⟨hg.os, hg.tape, hg.output, Nat.le_trans (by simp) hg.size, fun k hk hne => ?_⟩
      rw [hg.block k (by simp; omega) hne]
      exact Below.heap_alloc _ _ _ hk
    refine h v' w' ⟨?_, ?_, ?_, ?_⟩ hgw
    · rw [← List.append_assoc, strs_snoc]
      simpa [Nat.add_assoc] using h1
    · refine ⟨hg.os.trans hf.grow.os, hg.tape.trans hf.grow.tape, hg.output.trans hf.grow.output, Nat.le_trans hsz hgw.size, fun k hk hne => ?_⟩
      rw [hgw.block k (by omega) ?_, hf.grow.block k hk hne]
      rcases hf.lies with e | e
      · rw [e]; exact hne
      · intro e2; have := e k e2.symm; omega
    · rcases hat with e | e
      · rw [e]; exact hf.lies
      · right
        intro k hk
        rw [e] at hk
        simp at hk
        omega
    · rw [hn]; simp

theorem Fld.keep {w0 : World} {base : Nat} {v0 : Value} {f0 out : List (List UInt8)} {v : Value} {w w' : World} (h : Fld w0 base v0 f0 out v w) {b : Nat} {cs : Array Value} {fz : Nat × Nat}
    (hb : w.heap[b]? = some (.cells cs 77 fz)) (hB : w0.heap.size ≤ b) (hbel : Below b w w') (hk : Lib.OthersKept 5 (some b) w w') : Fld w0 base v0 f0 out v w' := by
  refine ⟨⟨h.own.1, ?_⟩, ?_, h.lies, h.isnil⟩
  · rcases h.own.2 with e | ⟨g, cap, cur, e1, e2, e3, e4⟩
    · exact .inl e
    · refine .inr ⟨g, cap, cur, e1, e2, hk g _ e3 ?_ (by intro c fz e; simp at e), e4⟩
      intro e
      have := own_ne h.own hb (by decide)
      rw [e1] at this
      exact this e.symm
  · refine ⟨hbel.os.trans h.grow.os, hbel.tape.trans h.grow.tape, hbel.output.trans h.grow.output, Nat.le_trans h.grow.size hbel.size, fun k hk' hne => ?_⟩
    rw [hbel.block k (by omega)]
    exact h.grow.block k hk' hne

theorem Bld.block {T e : TypeId} {B b : Nat} {bs : List Value} {w : World} (h : Lib.IsBuilderF T e B b bs w) : ∃ p q, w.heap[b]? = some (.cells #[p, q] T (0, 0)) := by
  rcases h with ⟨_, v, hb, _⟩ | ⟨_, v, hb, _⟩
  · exact ⟨_, _, hb⟩
  · exact ⟨_, _, hb⟩

set_option maxHeartbeats 400000 in
theorem reset_any (b : Nat) (p q : Value) (w : World) (hb : w.heap[b]? = some (.cells #[p, q] 77 (0, 0))) :
    Calls Try.prog 43 #[.pointer (some ⟨b, 0, none⟩)] w fun e w' => e = .returned (.tuple #[]) ∧ w' = (w.setCell ⟨b, 0, none⟩ (.pointer none)).setCell ⟨b, 1, none⟩ (.slice none 0 0) := by
  have c0 : w.cell? ⟨b, 0, none⟩ = some p := by rw [Lib.cell_of_heap hb]; rfl
  have c1 : w.cell? ⟨b, 1, none⟩ = some q := by rw [Lib.cell_of_heap hb]; rfl
  have f0 : w.frozen? ⟨b, 0, none⟩ = false := Lib.frozen_of_heap hb 0
  have f1 : w.frozen? ⟨b, 1, none⟩ = false := Lib.frozen_of_heap hb 1
  clear hb
  go_enter Try.func43, Try.ntmps43
  go_wp2
  go_end0
  exact ⟨rfl, rfl⟩

theorem beq_byte (c : UInt8) (n : Nat) (hn : n < 256) : ((c.toNat : Int) == (n : Int)) = (c == UInt8.ofNat n) := by
  rw [Bool.eq_iff_iff]
  simp only [beq_iff_eq]
  constructor
  · intro h
    apply UInt8.toNat_inj.1
    simp [Nat.mod_eq_of_lt hn]; omega
  · intro h
    rw [h]
    simp [Nat.mod_eq_of_lt hn]

theorem blank_index (c : UInt8) : decide ((0:Int) ≤ Lib.indexByte [32, 9, 11, 12] c) = blank c := by
  have h : ∀ k : Fin 256, decide ((0:Int) ≤ Lib.indexByte [32, 9, 11, 12] (UInt8.ofNat k.val)) = blank (UInt8.ofNat k.val) := by decide +kernel
  simpa using h ⟨c.toNat, c.toNat_lt⟩

set_option maxHeartbeats 400000 in
theorem isSpace_any (c : UInt8) (b : Bool) (hb : blank c = b) (w : World) :
    Calls Try.prog 41 #[.int .u8 c.toNat] w fun e w' => e = .returned (.bool b) ∧ w = w' := by
  subst hb
  rw [← blank_index]
  go_enter Try.func41, Try.ntmps41
  go_wp2_with (go_at_call 53; refine (Try.strings_IndexByte _ _ _).mono ?_; rintro e w' ⟨rfl, rfl⟩)
  go_ret
  exact ⟨rfl, rfl⟩

set_option maxHeartbeats 400000 in
theorem isQuoting_any (c : UInt8) (b : Bool) (hb : quoting c = b) (w : World) :
    Calls Try.prog 42 #[.int .u8 c.toNat] w fun e w' => e = .returned (.bool b) ∧ w = w' := by
  subst hb
  have e1 := beq_byte c 92 (by omega)
  have e2 := beq_byte c 34 (by omega)
  have e3 := beq_byte c 39 (by omega)
  have hq : quoting c = (((c.toNat : Int) == 92) || ((c.toNat : Int) == 34) || ((c.toNat : Int) == 39)) := by
    show (c == 92 || c == 34 || c == 39) = _
    rw [show ((c.toNat : Int) == 92) = (c == 92) from e1, show ((c.toNat : Int) == 34) = (c == 34) from e2, show ((c.toNat : Int) == 39) = (c == 39) from e3]
  rw [hq]
  clear e1 e2 e3 hq
  cases h1 : ((c.toNat : Int) == 92) <;> cases h2 : ((c.toNat : Int) == 34) <;> cases h3 : ((c.toNat : Int) == 39)
  all_goals
    go_enter Try.func42, Try.ntmps42
    go_wp2
    go_ret
    exact ⟨rfl, rfl⟩

end Go.Proofs.Qxb6603470a
