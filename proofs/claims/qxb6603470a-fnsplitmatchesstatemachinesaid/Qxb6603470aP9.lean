import Derived.Test.Qxb6603470aP6
namespace Go.Proofs.Qxb6603470a
open Go.RowKit

set_option maxHeartbeats 400000 in
theorem isBlank_any (c : UInt8) (b : Bool) (hb : blank c = b) (w : World) :
    Calls Try.prog 26 #[.int .u8 c.toNat] w fun e w' => e = .returned (.bool b) ∧ w = w' := by
  subst hb
  have e1 := beq_byte c 32 (by omega)
  have e2 := beq_byte c 9 (by omega)
  have e3 := beq_byte c 11 (by omega)
  have e4 := beq_byte c 12 (by omega)
  have hq : blank c = (((c.toNat : Int) == 32) || ((c.toNat : Int) == 9) || ((c.toNat : Int) == 11) || ((c.toNat : Int) == 12)) := by
    show (c == 32 || c == 9 || c == 11 || c == 12) = _
    rw [show ((c.toNat : Int) == 32) = (c == 32) from e1, show ((c.toNat : Int) == 9) = (c == 9) from e2, show ((c.toNat : Int) == 11) = (c == 11) from e3, show ((c.toNat : Int) == 12) = (c == 12) from e4]
  rw [hq]
  clear e1 e2 e3 e4 hq
  cases h1 : ((c.toNat : Int) == 32) <;> cases h2 : ((c.toNat : Int) == 9) <;> cases h3 : ((c.toNat : Int) == 11) <;> cases h4 : ((c.toNat : Int) == 12)
  all_goals
    go_enter Try.func26, Try.ntmps26
    go_wp2
    go_ret
    exact ⟨rfl, rfl⟩

structure MInv (w0 : World) (out : List (List UInt8)) (cur : List UInt8) (vo vc : Value) (w : World) : Prop where
  o : w.ownsRow w0.heap.size 9 1 vo out.length (strs out)
  c : w.ownsRow w0.heap.size 5 1 vc cur.length (Lib.byteCells cur)
  below : Below w0.heap.size w0 w

theorem rows_apart {w : World} {B B' n n' : Nat} {v u : Value} {xs ys : List Value} {e e' : TypeId} (h : w.ownsRow B e 1 v n xs) (h' : w.ownsRow B' e' 1 u n' ys) (hne : e ≠ e') : v.ownBlock = none ∨ v.ownBlock ≠ u.ownBlock := by
  rcases h.2 with ⟨rfl, _⟩ | ⟨g, cap, cur, rfl, _, hg, _⟩
  · exact .inl rfl
  · right
    rcases h'.2 with ⟨rfl, _⟩ | ⟨g', cap', cur', rfl, _, hg', _⟩
    · simp [Value.ownBlock]
    · intro e2
      simp only [Value.ownBlock, Option.some.injEq] at e2
      subst e2
      rw [hg] at hg'
      simp at hg'
      exact hne hg'.2

theorem MInv.start (w : World) : MInv w [] [] (.slice none 0 0) (.slice none 0 0) w := ⟨World.ownsRow_nil _ _ _ _, World.ownsRow_nil _ _ _ _, Below.refl _ _⟩

theorem app_cur {ops : Array Oper} {rest : List Oper} {o : Oper} {a : Act} {Q : Exit → Act → World → Prop} (hgd : o.guard = none) (s x : Operand)
    (ho : o.op = .call { callee := .builtin .append, args := #[s, x], argTypes := #[52, 52] })
    (w0 w : World) (vo vc : Value) (out : List (List UInt8)) (cur : List UInt8) (hs : a.eval s = vc) (hI : MInv w0 out cur vo vc w) (c : UInt8) (cz : Int) (hc : cz = c.toNat)
    (hx : a.eval x = .slice (some ⟨w.heap.size, 0, none⟩) 1 1) (hlen : cur.length ≤ 1000000000000)
    (h : ∀ v' w', MInv w0 out (cur ++ [c]) vo v' w' → wpList Try.prog ops Q rest (a.put o.dst v') w') :
    wpList Try.prog ops Q (o :: rest) a (w.alloc (.cells #[.int .u8 cz] 5)) := by
  subst hc
  obtain ⟨i0, hi, hz0, hz1, hz2⟩ := info_parts Try.info5
  have hsz := hI.below.size
  refine wpList_append_own _ hgd s x 52 ho w0.heap.size 5 i0 (.int .u8 0) 1 1 Try.underlying52 hi hz0 hz1 hz2 rfl (by decide) vc cur.length (Lib.byteCells cur) hs (hI.c.alloc _) ⟨w.heap.size, 0, none⟩ 1 1 [.int .u8 c.toNat] hx rfl ?_ ?_ ?_ ?_ ?_ ?_
  · intro j u hj
    match j, hj with
    | 0, hj => simp at hj; subst hj; simp [Addr.add]
  · intro u hu; simp at hu; subst hu; rfl
  · unfold maxLen; omega
  · omega
  · simp; omega
  · intro v' w' h1 hg _
    refine h v' w' ⟨?_, ?_, ?_⟩
    · exact (hI.o.alloc _).kept hg (rows_apart hI.o hI.c (by decide))
    · simpa [Lib.byteCells] using h1
    · exact (hI.below.alloc hsz _).grown hg (by simp; omega) (fun k hk => (hI.c.lt k hk).1)

theorem app_out {ops : Array Oper} {rest : List Oper} {o : Oper} {a : Act} {Q : Exit → Act → World → Prop} (hgd : o.guard = none) (s x : Operand)
    (ho : o.op = .call { callee := .builtin .append, args := #[s, x], argTypes := #[22, 22] })
    (w0 w : World) (vo vc : Value) (out : List (List UInt8)) (cur : List UInt8) (hs : a.eval s = vo) (hI : MInv w0 out cur vo vc w) (str : List UInt8)
    (hx : a.eval x = .slice (some ⟨w.heap.size, 0, none⟩) 1 1) (hlen : out.length ≤ 1000000000)
    (h : ∀ v' w', MInv w0 (out ++ [str]) cur v' vc w' → wpList Try.prog ops Q rest (a.put o.dst v') w') :
    wpList Try.prog ops Q (o :: rest) a (w.alloc (.cells #[.string ⟨str.toArray⟩] 9)) := by
  obtain ⟨i0, hi, hz0, hz1, hz2⟩ := info_parts Try.info9
  have hsz := hI.below.size
  refine wpList_append_own _ hgd s x 22 ho w0.heap.size 9 i0 (.string ⟨#[]⟩) 1 16 Try.underlying22 hi hz0 hz1 hz2 rfl (by decide) vo out.length (strs out) hs (hI.o.alloc _) ⟨w.heap.size, 0, none⟩ 1 1 [.string ⟨str.toArray⟩] hx rfl ?_ ?_ ?_ ?_ ?_ ?_
  · intro j u hj
    match j, hj with
    | 0, hj => simp at hj; subst hj; simp [Addr.add]
  · intro u hu; simp at hu; subst hu; rfl
  · unfold maxLen; omega
  · omega
  · simp; omega
  · intro v' w' h1 hg _
    refine h v' w' ⟨?_, ?_, ?_⟩
    · rw [strs_snoc]; simpa using h1
    · exact (hI.c.alloc _).kept hg (rows_apart hI.c hI.o (by decide))
    · exact (hI.below.alloc hsz _).grown hg (by simp; omega) (fun k hk => (hI.o.lt k hk).1)

theorem MInv.conv {w0 w : World} {vo vc : Value} {out : List (List UInt8)} {cur : List UInt8} (h : MInv w0 out cur vo vc w) : (convert 52 9 vc).run Try.prog w = .ok (.string ⟨cur.toArray⟩) w :=
  OwnB.conv (B := w0.heap.size) (w0 := w0) ⟨h.c, h.below⟩

theorem MInv.form {w0 w : World} {vo vc : Value} {out : List (List UInt8)} {cur : List UInt8} (h : MInv w0 out cur vo vc w) : (vc = .slice none 0 0 ∧ cur = []) ∨ ∃ g cap, vc = .slice (some ⟨g, 0, none⟩) cur.length cap ∧ cur.length ≤ cap ∧ cap ≤ maxLen := by
  rcases h.c.2 with ⟨e, h0⟩ | ⟨g, cap, cur', e, _, _, hn, hm, _⟩
  · exact .inl ⟨e, List.eq_nil_of_length_eq_zero h0⟩
  · exact .inr ⟨g, cap, e, hn, hm⟩

theorem MInv.cut {w0 w : World} {vo : Value} {out : List (List UInt8)} {cur : List UInt8} {g cap : Nat} (h : MInv w0 out cur vo (.slice (some ⟨g, 0, none⟩) cur.length cap) w) : MInv w0 out [] vo (.slice (some ⟨g, 0, none⟩) 0 cap) w := by
  refine ⟨h.o, ⟨rfl, ?_⟩, h.below⟩
  rcases h.c.2 with ⟨e, _⟩ | ⟨g', cap', cur', e, hg, hh, hn, hm, hsz, _⟩
  · simp at e
  · simp only [Value.slice.injEq, Option.some.injEq, Addr.mk.injEq, and_true, true_and] at e
    obtain ⟨rfl, rfl⟩ := e
    exact .inr ⟨g, cap, cur', rfl, hg, hh, Nat.zero_le _, hm, hsz, by simp [Lib.byteCells]⟩

end Go.Proofs.Qxb6603470a
