import Derived.Test.Qxb6603346aRows
import Derived.Test.Qxb6603346aShelf
import Derived.Test.Qxb6603346aP0
import Derived.WalkKit
import Derived.WalkSpells
import Derived.BigQuiet
namespace Go.Proofs.Qxb6603346a
open Go.RowKit

theorem Try.info5 : (Try.prog.info? 5).map (fun i => (i.zero, i.size, i.bytes)) = some (some (.int .u8 0), 1, 1) := by kernel_rfl

def OwnB (B : Nat) (w0 w : World) (v : Value) (l : List UInt8) : Prop :=
  w.ownsRow B 5 1 v l.length (Lib.byteCells l) ∧ Below B w0 w

theorem OwnB.nil (w : World) : OwnB w.heap.size w w (.slice none 0 0) [] := ⟨World.ownsRow_nil _ _ _ _, Below.refl _ _⟩

theorem app_byte {ops : Array Oper} {rest : List Oper} {o : Oper} {a : Act} {Q : Exit → Act → World → Prop} (hgd : o.guard = none) (s x : Operand)
    (ho : o.op = .call { callee := .builtin .append, args := #[s, x], argTypes := #[27, 27] })
    (w0 w : World) (v : Value) (l : List UInt8) (hs : a.eval s = v) (hown : OwnB w0.heap.size w0 w v l) (c : UInt8) (cz : Int) (hc : cz = c.toNat)
    (hx : a.eval x = .slice (some ⟨w.heap.size, 0, none⟩) 1 1) (hlen : l.length ≤ 1000000000000)
    (h : ∀ v' w', OwnB w0.heap.size w0 w' v' (l ++ [c]) → wpList Try.prog ops Q rest (a.put o.dst v') w') :
    wpList Try.prog ops Q (o :: rest) a (w.alloc (.cells #[.int .u8 cz] 5)) := by
  subst hc
  obtain ⟨i0, hi, hz0, hz1, hz2⟩ := info_parts Try.info5
  obtain ⟨ho1, hb⟩ := hown
  have hsz := hb.size
  refine wpList_append_own _ hgd s x 27 ho w0.heap.size 5 i0 (.int .u8 0) 1 1 Try.underlying27 hi hz0 hz1 hz2 rfl (by decide) v l.length (Lib.byteCells l) hs (ho1.alloc _) ⟨w.heap.size, 0, none⟩ 1 1 [.int .u8 c.toNat] hx rfl ?_ ?_ ?_ ?_ ?_ ?_
  · intro j u hj
    match j, hj with
    | 0, hj => simp at hj; subst hj; simp [Addr.add]
  · intro u hu; simp at hu; subst hu; rfl
  · unfold maxLen; omega
  · omega
  · simp; omega
  · intro v' w' h1 hg _
    refine h v' w' ⟨?_, ?_⟩
    · simpa [Lib.byteCells] using h1
    · exact (hb.alloc hsz _).grown hg (by simp; omega) (fun k hk => (ho1.lt k hk).1)

theorem byte_ne {c : UInt8} {n : Nat} (hn : n < 256) (h : ¬ c = UInt8.ofNat n) : ((c.toNat : Int) == (n : Int)) = false := by
  refine beq_eq_false_iff_ne.2 fun e => h ?_
  have : c.toNat = n := by omega
  apply UInt8.toNat_inj.1
  rw [this]
  simp [Nat.mod_eq_of_lt hn]

set_option maxHeartbeats 400000 in
theorem quoted_any (x : ByteArray) (all : Bool) (w : World) (hx : x.size ≤ 262144) :
    Calls Try.prog 10 #[.slice none 0 0, .string x, .bool all] w fun e w' => ∃ v, e = .returned v ∧ OwnB w.heap.size w w' v (34 :: E all x.data.toList ++ [34]) := by
  have h0 := OwnB.nil w
  go_enter Try.func10, Try.ntmps10
  go_wp2_with (at_builtin; refine app_byte (by rfl) (.tmp 9) (.tmp 10) (by rfl) w w _ [] (by rfl) h0 34 34 (by rfl) (by rfl) (by simp) ?_)
  intro v1 w1 h1
  clear h0
  go_wp2
  go_loopw [0, 7] (fun v i wr => ∃ k : Nat, k ≤ x.size ∧ i = .int .i64 k ∧ OwnB w.heap.size w wr v (34 :: E all (x.data.toList.take k))) (fun _ i _ => x.size - (intOf i).toNat)
  case atStart => exact ⟨0, Nat.zero_le _, rfl, by simpa [E] using h1⟩
  case round =>
    obtain ⟨k, hk, rfl, hown⟩ := hrel
    have hl : (34 :: E all (x.data.toList.take k)).length ≤ 1000000000 := by
      have h1 := E_len all (x.data.toList.take k)
      have h2 : (x.data.toList.take k).length ≤ k := List.length_take_le _ _
      simp; omega
    have HL : Hid ((34 :: E all (x.data.toList.take k)).length ≤ 1000000000) := hl
    clear hl h1
    by_cases hlt : k < x.size
    · have HS : Hid (E all (x.data.toList.take (k + 1)) = E all (x.data.toList.take k) ++ esc all x[k]) := by
        show _ = _
        rw [take_snoc x k hlt, E_snoc]
      by_cases hc : all = true ∨ x[k] = 34 ∨ x[k] = 92
      · have HX : Hid (esc all x[k] = [92, x[k]]) := esc_yes all _ hc
        have hq : all = true ∨ (all = false ∧ ((x[k].toNat : Int) == 34) = true) ∨ (all = false ∧ ((x[k].toNat : Int) == 34) = false ∧ ((x[k].toNat : Int) == 92) = true) := by
          cases all
          · rcases hc with h | h | h
            · simp at h
            · exact .inr (.inl ⟨rfl, by rw [h]; rfl⟩)
            · exact .inr (.inr ⟨rfl, by rw [h]; rfl, by rw [h]; rfl⟩)
          · exact .inl rfl
        clear hc
        rcases hq with rfl | ⟨rfl, hq1⟩ | ⟨rfl, hq1, hq2⟩
        all_goals
          go_wp2_with (at_builtin; refine app_byte (by rfl) (.tmp 30) (.tmp 31) (by rfl) w wr _ _ (by rfl) hown 92 92 (by rfl) (by rfl) (by have := HL.out; omega) ?_)
          intro v2 w2 h2
          clear hown
          go_wp2_with (at_builtin; refine app_byte (by rfl) (.tmp 33) (.tmp 35) (by rfl) w w2 _ _ (by rfl) h2 x[k] _ (by rfl) (by rfl) (by have := HL.out; simp at this ⊢; omega) ?_)
          intro v3 w3 h3
          clear h2
          go_wp2
          go_roundw
          case rel => exact ⟨k + 1, by omega, by go_num, by rw [HS.out, HX.out]; simpa using h3⟩
          case measure => simp [intOf]; omega
      · have hn34 : ¬ x[k] = 34 := fun e => hc (.inr (.inl e))
        have hn92 : ¬ x[k] = 92 := fun e => hc (.inr (.inr e))
        have hall : all = false := by cases all; rfl; exact absurd (.inl rfl) hc
        subst hall
        have HX : Hid (esc false x[k] = [x[k]]) := esc_no _ hn34 hn92
        have q1 : ((x[k].toNat : Int) == 34) = false := byte_ne (n := 34) (by omega) hn34
        have q2 : ((x[k].toNat : Int) == 92) = false := byte_ne (n := 92) (by omega) hn92
        clear hc hn34 hn92
        go_wp2_with (at_builtin; refine app_byte (by rfl) (.tmp 33) (.tmp 35) (by rfl) w wr _ _ (by rfl) hown x[k] _ (by rfl) (by rfl) (by have := HL.out; omega) ?_)
        intro v3 w3 h3
        clear hown
        go_wp2
        go_roundw
        case rel => exact ⟨k + 1, by omega, by go_num, by rw [HS.out, HX.out]; simpa using h3⟩
        case measure => simp [intOf]; omega
    · have HE : Hid (x.data.toList.take k = x.data.toList) := List.take_of_length_le (by simp; omega)
      go_wp2_with (at_builtin; refine app_byte (by rfl) (.tmp 37) (.tmp 38) (by rfl) w wr _ _ (by rfl) hown 34 34 (by rfl) (by rfl) (by have := HL.out; omega) ?_)
      intro v2 w2 h2
      clear hown
      go_wp2
      go_ret
      exact ⟨_, rfl, by rw [HE.out] at h2; simpa using h2⟩
end Go.Proofs.Qxb6603346a
