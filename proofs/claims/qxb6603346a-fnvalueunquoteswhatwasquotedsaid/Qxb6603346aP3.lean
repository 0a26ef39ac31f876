import Derived.Test.Qxb6603346aP2
import Derived.Deep.LoopGhost
namespace Go.Proofs.Qxb6603346a
open Go.RowKit

theorem fresh_builder (w : World) : Lib.IsBuilderF 35 5 w.heap.size w.heap.size (Lib.byteCells []) (w.alloc (.cells #[.pointer none, .slice none 0 0] 35)) := by
  refine .inl ⟨Nat.le_refl _, .slice none 0 0, heap_alloc_new w _, World.ownsRowF_nil _ _ _ _, by simp [Value.ownBlock]⟩

set_option maxHeartbeats 1000000 in
theorem value_yes (sb : Nat) (S : ByteArray) (all : Bool) (pre x tail : List UInt8) (w : World) (hS : S.data.toList = pre ++ (34 :: (E all x ++ (34 :: tail)))) (hsz : S.size ≤ 10000000) (hx : x.length ≤ 262144)
    (hscan : Scan sb S pre.length w) :
    Calls Try.prog 11 #[.pointer (some ⟨sb, 0, none⟩)] w fun e w' => e = .returned (.string ⟨x.toArray⟩) ∧ Scan sb S (posn all pre x x.length + 1) w' ∧ Below sb w w' := by
  obtain ⟨s1, s2⟩ := round_start hS
  have s3 : ((S[pre.length].toNat : Int) != 34) = false := by rw [s2]; rfl
  have C1 : Hid (Calls Try.prog 12 #[.pointer (some ⟨sb, 0, none⟩), .int .u8 34] w fun e w' => e = .returned (.bool true) ∧ ∃ n, w' = (w.drewN n).setCell ⟨sb, 1, none⟩ (.int .i64 ((pre.length : Int) + 1))) :=
    consume_yes sb S pre.length w hscan.c0 hscan.c1 hscan.f1 s1 hsz s3
  have HS : Hid (S.data.toList = pre ++ (34 :: (E all x ++ (34 :: tail)))) := hS
  clear s2 s3 hS
  go_enter Try.func11, Try.ntmps11
  go_wp2_with (go_at_call 12; refine C1.out.mono ?_; rintro e w' ⟨rfl, n, rfl⟩)
  have hst : Inv w sb w.heap.size S (posn all pre x 0) [] (((w.drewN n).setCell ⟨sb, 1, none⟩ (.int .i64 ((pre.length : Int) + 1))).alloc (.cells #[.pointer none, .slice none 0 0] 35)) := by
    have hs1 : Scan sb S (posn all pre x 0) ((w.drewN n).setCell ⟨sb, 1, none⟩ (.int .i64 ((pre.length : Int) + 1))) := by
      have := Scan.next (w := w.drewN n) hscan
      simpa [posn, E] using this
    have hsz0 : ((w.drewN n).setCell ⟨sb, 1, none⟩ (.int .i64 ((pre.length : Int) + 1))).heap.size = w.heap.size := by simp [World.setCell]
    have hl := hscan.lt
    have hfb := fresh_builder ((w.drewN n).setCell ⟨sb, 1, none⟩ (.int .i64 ((pre.length : Int) + 1)))
    rw [hsz0] at hfb
    refine ⟨(Below.heap_alloc _ _ _ (by rw [hsz0]; exact hl)).trans hs1, hfb, ?_, hl, by simp⟩
    exact (((Below.refl sb w).trans ⟨rfl, rfl, rfl, Nat.le_refl _, fun _ _ => rfl⟩ : Below sb w (w.drewN n)).setCell (Nat.le_refl _) _).alloc (by rw [hsz0]; omega) _
  clear C1 hscan s1
  go_loopg [] x.length (fun g wr => ∃ k, k + g = x.length ∧ Inv w sb w.heap.size S (posn all pre x k) (x.take k) wr)
  case atStart => exact ⟨0, by omega, by simpa using hst⟩
  case round =>
    obtain ⟨k, hk, hinv⟩ := hrel
    clear hst
    have c0 := hinv.scan.c0
    have c1 := hinv.scan.c1
    have f1 := hinv.scan.f1
    by_cases hlt : k < x.length
    · by_cases hc : all = true ∨ x[k] = 34 ∨ x[k] = 92
      · obtain ⟨e0, e1, e2, e3, e4⟩ := round_esc HS.out hlt hc
        have t1 : ((S[posn all pre x k].toNat : Int) != 34) = true := by rw [e3]; rfl
        have t2 : ((S[posn all pre x k].toNat : Int) == 92) = true := by rw [e3]; rfl
        have E0 : Hid (posn all pre x (k + 1) = posn all pre x k + 1 + 1) := e0
        have E4 : Hid (S[posn all pre x k + 1] = x[k]) := e4
        clear e0 e3 e4 hc
        generalize hp : posn all pre x k = p at *
        have HP : Hid (posn all pre x k = p) := hp
        clear hp
        have b1 : (p : Int) < (S.size : Int) := by omega
        have b2 : (p : Int) + 1 < (S.size : Int) := by omega
        go_wp2_with fail
        go_quiet ((go_at_call 14; exact done_q sb S p _ c0 c1 e1 _))
        revert nq; intro n1
        go_wp2_with fail
        go_quiet (fail)
        revert nq; intro n2
        go_wp2_with fail
        have hI2 : Inv w sb w.heap.size S (p + 1) (x.take k) ((wr.drewN (n1 + n2)).setCell ⟨sb, 1, none⟩ (.int .i64 ((p : Int) + 1))) := (hinv.drewN _).next
        generalize (wr.drewN (n1 + n2)).setCell ⟨sb, 1, none⟩ (.int .i64 ((p : Int) + 1)) = W2 at hI2 ⊢
        clear c0 c1 f1 hinv t1 t2
        have c0 := hI2.scan.c0
        have c1 : W2.cell? ⟨sb, 1, none⟩ = some (.int .i64 ((p : Int) + 1)) := hI2.scan.c1
        have hlen : (Lib.byteCells (x.take k)).length + 1 ≤ 140737488355328 := by rw [Lib.byteCells_length, List.length_take]; omega
        go_region_held3 (fun w' => w'.cell? ⟨sb, 0, none⟩ = some (.string S) ∧ w'.cell? ⟨sb, 1, none⟩ = some (.int .i64 ((p : Int) + 1)))
          (first | go_keep | exact ⟨(hbel.cell hI2.lt).trans c0, (hbel.cell hI2.lt).trans c1⟩)
          ((go_at_call 15; refine (Try.Builder_WriteByte_k w.heap.size w.heap.size (Lib.byteCells (x.take k)) _ W2.drew hI2.bld hlen hI2.le).mono ?_; rintro e w3 ⟨rfl, hb, hbel, _⟩))
        have hI3 : Inv w sb w.heap.size S (p + 1) (x.take k ++ [x[k]]) w3 := by
          rw [E4.out] at hb
          exact Inv.wrote (w := W2.drew) (hI2.drewN 1) x[k] hb hbel
        rw [← List.take_succ_eq_append_getElem hlt] at hI3
        clear c0 c1 hI2 hb hbel hlen
        have c1 : w3.cell? ⟨sb, 1, none⟩ = some (.int .i64 ((p : Int) + 1)) := hI3.scan.c1
        have f1 := hI3.scan.f1
        have hI4 := hI3.next
        rw [← E0.out] at hI4
        clear hI3
        have HI : Hid (Inv w sb w.heap.size S (posn all pre x (k + 1)) (x.take (k + 1)) _) := hI4
        clear hI4
        go_wp2
        go_roundg (gk - 1)
        case measure => omega
        case rel => exact ⟨k + 1, by omega, HI.out⟩
      · have h34 : ¬ x[k] = 34 := fun e => hc (.inr (.inl e))
        have h92 : ¬ x[k] = 92 := fun e => hc (.inr (.inr e))
        have hall : all = false := by cases all; rfl; exact absurd (.inl rfl) hc
        subst hall
        obtain ⟨e0, e1, e3⟩ := round_plain HS.out hlt h34 h92
        have t1 : ((S[posn false pre x k].toNat : Int) != 34) = true := by rw [e3, bne, show ((x[k].toNat : Int) == 34) = false from byte_ne (n := 34) (by omega) h34]; rfl
        have t2 : ((S[posn false pre x k].toNat : Int) == 92) = false := by rw [e3]; exact byte_ne (n := 92) (by omega) h92
        have E0 : Hid (posn false pre x (k + 1) = posn false pre x k + 1) := e0
        have E4 : Hid (S[posn false pre x k] = x[k]) := e3
        clear e0 e3 hc h34 h92
        generalize hp : posn false pre x k = p at *
        clear hp
        have b1 : (p : Int) < (S.size : Int) := by omega
        go_wp2_with fail
        go_quiet ((go_at_call 14; exact done_q sb S p _ c0 c1 e1 _))
        revert nq; intro n1
        go_wp2_with fail
        go_quiet (fail)
        revert nq; intro n2
        go_wp2_with fail
        have hI2 : Inv w sb w.heap.size S p (x.take k) ((wr.drewN n1).drewN n2) := (hinv.drewN n1).drewN n2
        generalize (wr.drewN n1).drewN n2 = W2 at hI2 ⊢
        clear c0 c1 f1 hinv t1 t2
        have c0 := hI2.scan.c0
        have c1 := hI2.scan.c1
        have hlen : (Lib.byteCells (x.take k)).length + 1 ≤ 140737488355328 := by rw [Lib.byteCells_length, List.length_take]; omega
        go_region_held3 (fun w' => w'.cell? ⟨sb, 0, none⟩ = some (.string S) ∧ w'.cell? ⟨sb, 1, none⟩ = some (.int .i64 (p : Int)))
          (first | go_keep | exact ⟨(hbel.cell hI2.lt).trans c0, (hbel.cell hI2.lt).trans c1⟩)
          ((go_at_call 15; refine (Try.Builder_WriteByte_k w.heap.size w.heap.size (Lib.byteCells (x.take k)) _ W2.drew hI2.bld hlen hI2.le).mono ?_; rintro e w3 ⟨rfl, hb, hbel, _⟩))
        have hI3 : Inv w sb w.heap.size S p (x.take k ++ [x[k]]) w3 := by
          rw [E4.out] at hb
          exact Inv.wrote (w := W2.drew) (hI2.drewN 1) x[k] hb hbel
        rw [← List.take_succ_eq_append_getElem hlt] at hI3
        clear c0 c1 hI2 hb hbel hlen
        have c1 := hI3.scan.c1
        have f1 := hI3.scan.f1
        have hI4 := hI3.next
        rw [← E0.out] at hI4
        clear hI3
        have HI : Hid (Inv w sb w.heap.size S (posn false pre x (k + 1)) (x.take (k + 1)) _) := hI4
        clear hI4
        go_wp2
        go_roundg (gk - 1)
        case measure => omega
        case rel => exact ⟨k + 1, by omega, HI.out⟩
    · obtain ⟨e1, e2⟩ := round_end HS.out (by omega : k = x.length)
      have e3 : ((S[posn all pre x k].toNat : Int) != 34) = false := by rw [e2]; rfl
      generalize hp : posn all pre x k = p at *
      have HP : Hid (posn all pre x k = p) := hp
      clear hp e2
      have b1 : (p : Int) < (S.size : Int) := by omega
      go_wp2_with fail
      go_quiet ((go_at_call 14; exact done_q sb S p _ c0 c1 e1 _))
      go_wp2_with fail
      refine (consume_yes sb S p _ (by simpa using c0) (by simpa using c1) (by simpa using f1) e1 hsz e3).mono ?_
      rintro e w2 ⟨rfl, n2, hw2⟩
      have hI2 : Inv w sb w.heap.size S (p + 1) (x.take k) w2 := by rw [hw2]; exact ((hinv.drewN nq).drewN n2).next
      clear hw2 hinv c0 c1 f1
      have et : x.take k = x := List.take_of_length_le (by omega)
      rw [et] at hI2
      go_wp2_with fail
      refine (Try.Builder_String_any_k w.heap.size w.heap.size x _ hI2.bld hI2.le).mono ?_
      rintro e w3 ⟨rfl, _, hb3, _⟩
      go_wp2
      go_ret
      have hkx : k = x.length := by omega
      refine ⟨rfl, ?_, hI2.below.trans (hb3.mono (Nat.le_of_lt hI2.lt))⟩
      rw [← hkx, HP.out]
      exact (hb3.block sb hI2.lt).trans hI2.scan

end Go.Proofs.Qxb6603346a
