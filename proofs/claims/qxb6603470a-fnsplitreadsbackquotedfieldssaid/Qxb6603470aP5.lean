import Derived.Test.Qxb6603470aP4
namespace Go.Proofs.Qxb6603470a
open Go.RowKit

theorem eqnil22 (w : World) (a : Option Addr) (n c n' c' : Nat) : (binOp .eql 22 (.slice a n c) (.slice none n' c')).run Try.prog w = .ok (.bool a.isNone) w :=
  Lib.run_eql_slice_nil w _ _ a n c n' c' Try.underlying22

set_option maxHeartbeats 400000 in
theorem clone_nil (w : World) :
    Calls Try.prog 8 #[.slice none 0 0] w fun e w' => e = .returned (.slice none 0 0) ∧ w = w' := by
  have q := eqnil22
  go_enter Try.func8, Try.ntmps8
  go_wp2
  go_ret
  exact ⟨rfl, rfl⟩

def part (ls : List (List UInt8)) (k : Nat) : List Value := strs (ls.take k) ++ List.replicate (ls.length - k) (.string ⟨#[]⟩)
theorem part_zero (ls : List (List UInt8)) : part ls 0 = List.replicate ls.length (.string ⟨#[]⟩) := by simp [part, strs]
theorem part_all (ls : List (List UInt8)) : part ls ls.length = strs ls := by simp [part]
theorem part_len (ls : List (List UInt8)) (k : Nat) (h : k ≤ ls.length) : (part ls k).length = ls.length := by simp [part, strs]; omega
theorem part_set (ls : List (List UInt8)) (k : Nat) (h : k < ls.length) : (part ls k).set k (.string ⟨ls[k].toArray⟩) = part ls (k + 1) := by
  unfold part
  have e : (strs (ls.take k)).length = k := by rw [strs_len, List.length_take]; omega
  rw [List.set_append_right _ _ (by omega), e, Nat.sub_self, take_snocL ls k h, strs_snoc]
  obtain ⟨m, hm⟩ : ∃ m, ls.length - k = m + 1 := ⟨ls.length - k - 1, by omega⟩
  rw [hm, show ls.length - (k + 1) = m by omega, List.replicate_succ]
  simp

set_option maxHeartbeats 400000 in
theorem clone_zero (x : Addr) (cap : Nat) (w : World) :
    Calls Try.prog 8 #[.slice (some x) 0 cap] w fun e w' => e = .returned (.slice (some ⟨w.heap.size, 0, none⟩) 0 0) ∧ w'.ownsRow w.heap.size 9 1 (.slice (some ⟨w.heap.size, 0, none⟩) 0 0) 0 [] ∧ Below w.heap.size w w' := by
  have q := eqnil22
  obtain ⟨i0, hi, hz0, hz1, hz2⟩ := info_parts Try.info9
  go_enter Try.func8, Try.ntmps8
  go_wp2_with (at_make; refine wpList_make_full _ (by rfl) (.tmp 8) (.tmp 8) 22 (by rfl) w.heap.size 9 i0 (.string ⟨#[]⟩) 1 Try.underlying22 hi hz0 hz1 .i64 .i64 0 0 0 (by rfl) (by rfl) (by rfl) (by rfl) (by omega) (by decide) (by simp) ?_)
  intro w1 h1 hg
  have HO : Hid (w1.ownsRow w.heap.size 9 1 (.slice (some ⟨w.heap.size, 0, none⟩) 0 0) 0 []) := by
    have e : (madeCells #[Value.string ⟨#[]⟩] 0).toList = [] := by rw [toList_madeCells_one]; rfl
    rw [e] at h1; exact h1
  have HB : Hid (Below w.heap.size w w1) := (Below.refl _ w).grown hg (Nat.le_refl _) (fun k hk => by simp at hk)
  clear h1 hg
  go_wp2
  go_loop [4] (fun i => i = .int .i64 0) (fun _ => 0)
  case atStart => rfl
  case round =>
    subst hrel
    go_wp2
    go_ret
    exact ⟨rfl, HO.out, HB.out⟩

set_option maxHeartbeats 400000 in
theorem clone_some (b off len cap : Nat) (ls : List (List UInt8)) (hlen : ls.length = len) (hm : len ≤ 1048576) (w : World) (hc : Cells w b off ls) :
    Calls Try.prog 8 #[.slice (some ⟨b, off, none⟩) len cap] w fun e w' => e = .returned (.slice (some ⟨w.heap.size, 0, none⟩) len len) ∧ w'.ownsRow w.heap.size 9 1 (.slice (some ⟨w.heap.size, 0, none⟩) len len) len (strs ls) ∧ Below w.heap.size w w' := by
  have q := eqnil22
  obtain ⟨i0, hi, hz0, hz1, hz2⟩ := info_parts Try.info9
  have HH : Hid (ls.length = len) := hlen
  have HC : Hid (Cells w b off ls) := hc
  clear hlen hc
  go_enter Try.func8, Try.ntmps8
  go_wp2_with (at_make; refine wpList_make_full _ (by rfl) (.tmp 8) (.tmp 8) 22 (by rfl) w.heap.size 9 i0 (.string ⟨#[]⟩) 1 Try.underlying22 hi hz0 hz1 .i64 .i64 len len len (by rfl) (by rfl) (by rfl) (by rfl) (by rw [hz2]; omega) (by unfold maxLen; omega) (by simp) ?_)
  intro w1 h1 hg
  have HO : Hid (w1.ownsRow w.heap.size 9 1 (.slice (some ⟨w.heap.size, 0, none⟩) len len) len (part ls 0)) := by
    have e : (madeCells #[Value.string ⟨#[]⟩] len).toList = part ls 0 := by
      rw [part_zero, HH.out]; exact toList_madeCells_one _ _
    rw [e] at h1; exact h1
  have HB : Hid (Below w.heap.size w w1) := (Below.refl _ w).grown hg (Nat.le_refl _) (fun k hk => by simp at hk)
  clear h1 hg hi hz0 hz1 hz2 i0
  go_wp2
  go_loopw [4] (fun i wr => ∃ k : Nat, k ≤ len ∧ i = .int .i64 k ∧ wr.ownsRow w.heap.size 9 1 (.slice (some ⟨w.heap.size, 0, none⟩) len len) len (part ls k) ∧ Below w.heap.size w wr) (fun i _ => len - (intOf i).toNat)
  case atStart => exact ⟨0, Nat.zero_le _, rfl, HO.out, HB.out⟩
  case round =>
    obtain ⟨k, hk, rfl, ho, hb⟩ := hrel
    clear HO HB
    have hL := HH.out
    by_cases hlt : k < len
    · have hk2 : k < ls.length := by omega
      have hsrc : wr.cell? ⟨b, off + k, none⟩ = some (.string ⟨ls[k].toArray⟩) := by
        have h0 := HC.out k hk2
        rw [hb.cell (p := ⟨b, off + k, none⟩) (World.block_lt_of_cell? w _ h0)]; exact h0
      have hdst : wr.cell? ⟨w.heap.size, k, none⟩ = some ((part ls k)[k]'(by rw [part_len ls k (by omega)]; omega)) := by
        rw [ho.cellAt k (by omega)]
        exact List.getElem?_eq_getElem _
      have hfr := ho.frozenAt k
      have HS := ho.stored k (.string ⟨ls[k].toArray⟩)
      rw [part_set ls k hk2] at HS
      have HS2 : Hid ((wr.setCell ⟨w.heap.size, k, none⟩ (.string ⟨ls[k].toArray⟩)).ownsRow w.heap.size 9 1 (.slice (some ⟨w.heap.size, 0, none⟩) len len) len (part ls (k + 1))) := HS.1
      have HB2 : Hid (Below w.heap.size w (wr.setCell ⟨w.heap.size, k, none⟩ (.string ⟨ls[k].toArray⟩))) := hb.setCell (p := ⟨w.heap.size, k, none⟩) (Nat.le_refl _) _
      generalize (part ls k)[k]'(by rw [part_len ls k (by omega)]; omega) = u at hdst
      clear HS ho hb hL
      go_wp2
      go_roundw
      case rel => exact ⟨k + 1, by omega, by go_num, HS2.out, HB2.out⟩
      case measure => simp [intOf]; omega
    · have HP : Hid (part ls k = strs ls) := by
        show _ = _
        rw [show k = ls.length by omega]; exact part_all ls
      have HO : Hid (wr.ownsRow w.heap.size 9 1 (.slice (some ⟨w.heap.size, 0, none⟩) len len) len (strs ls)) := by rw [← HP.out]; exact ho
      have HB : Hid (Below w.heap.size w wr) := hb
      clear ho hb hL
      go_wp2
      go_ret
      exact ⟨rfl, HO.out, HB.out⟩

end Go.Proofs.Qxb6603470a
