import Derived.Test.Qxb6602518aRows
import Derived.Test.Qxb6602518aShelf
import Derived.WalkKit
import Derived.WalkSpells
import Derived.BigQuiet
namespace Go.Proofs.Qxb6602518a
open Go.RowKit

theorem ne_of_pos (a : ByteArray) (h : 0 < a.size) : ¬ a.toList = [] := by
  intro e
  have h2 : a.toList.length = a.size := by rw [ByteArray.toList_eq]; simp
  rw [e] at h2; simp at h2; omega

set_option maxHeartbeats 400000 in
theorem field_yes (a : ByteArray) (w : World) (h : 0 < a.size) (hs : a.size ≤ 1048576) (hi : (0:Int) ≤ Lib.indexByte [61, 43, 45, 64, 9, 13, 0] a[0]) :
    Calls Try.prog 6 #[.string a] w fun e w' => e = .returned (.string (⟨#[39]⟩ ++ a)) ∧ w' = w := by
  have hne := ne_of_pos a h
  have hne2 : a.toList.isEmpty = false := by simpa using hne
  have hne3 : (!a.toList.isEmpty) = true := by simp [hne2]
  go_enter Try.func6, Try.ntmps6
  go_wp2_with (go_at_call 10; refine (Try.strings_IndexByte _ _ _).mono ?_; rintro e w' ⟨rfl, rfl⟩)
  go_ret
  exact ⟨rfl, rfl⟩

set_option maxHeartbeats 400000 in
theorem field_no (a : ByteArray) (w : World) (h : 0 < a.size) (hi : ¬ (0:Int) ≤ Lib.indexByte [61, 43, 45, 64, 9, 13, 0] a[0]) :
    Calls Try.prog 6 #[.string a] w fun e w' => e = .returned (.string a) ∧ w' = w := by
  have hne := ne_of_pos a h
  have hne2 : a.toList.isEmpty = false := by simpa using hne
  have hne3 : (!a.toList.isEmpty) = true := by simp [hne2]
  go_enter Try.func6, Try.ntmps6
  go_wp2_with (go_at_call 10; refine (Try.strings_IndexByte _ _ _).mono ?_; rintro e w' ⟨rfl, rfl⟩)
  go_ret
  exact ⟨rfl, rfl⟩

set_option maxHeartbeats 400000 in
theorem field_empty (w : World) :
    Calls Try.prog 6 #[.string ⟨#[]⟩] w fun e w' => e = .returned (.string ⟨#[]⟩) ∧ w' = w := by
  go_enter Try.func6, Try.ntmps6
  go_wp2_with (go_at_call 10; refine (Try.strings_IndexByte _ _ _).mono ?_; rintro e w' ⟨rfl, rfl⟩)
  go_ret
  exact ⟨rfl, rfl⟩

set_option maxHeartbeats 400000 in
theorem start_no (c : Int) (w : World) (h1 : (c == 61) = false) (h2 : (c == 43) = false) (h3 : (c == 45) = false) (h4 : (c == 64) = false)
    (h5 : (c == 9) = false) (h6 : (c == 13) = false) (h7 : (c == 0) = false) :
    Calls Try.prog 7 #[.int .u8 c] w fun e w' => e = .returned (.bool false) ∧ w' = w := by
  go_enter Try.func7, Try.ntmps7
  go_wp2
  go_ret
  exact ⟨rfl, rfl⟩

theorem no_of_index (c : UInt8) (hi : ¬ (0:Int) ≤ Lib.indexByte [61, 43, 45, 64, 9, 13, 0] c) :
    ((c.toNat : Int) == 61) = false ∧ ((c.toNat : Int) == 43) = false ∧ ((c.toNat : Int) == 45) = false ∧ ((c.toNat : Int) == 64) = false ∧
    ((c.toNat : Int) == 9) = false ∧ ((c.toNat : Int) == 13) = false ∧ ((c.toNat : Int) == 0) = false := by
  revert hi
  have : ∀ k : Fin 256, ¬ (0:Int) ≤ Lib.indexByte [61, 43, 45, 64, 9, 13, 0] (UInt8.ofNat k.val) →
    ((k.val : Int) == 61) = false ∧ ((k.val : Int) == 43) = false ∧ ((k.val : Int) == 45) = false ∧ ((k.val : Int) == 64) = false ∧
    ((k.val : Int) == 9) = false ∧ ((k.val : Int) == 13) = false ∧ ((k.val : Int) == 0) = false := by decide +kernel
  have h := this ⟨c.toNat, c.toNat_lt⟩
  simpa using h

set_option maxHeartbeats 400000 in
theorem suffix_yes (s t : ByteArray) (w : World) (hs : s.size ≤ 2097152) (ht : t.size ≤ s.size)
    (h : ∀ i (h1 : i < t.size) (h2 : s.size - t.size + i < s.size), s[s.size - t.size + i] = t[i]) :
    Calls Try.prog 8 #[.string s, .string t] w fun e w' => e = .returned (.bool true) ∧ ∃ n, w' = w.drewN n := by
  go_enter Try.func8, Try.ntmps8
  go_wp2
  go_loopw [6] (fun i w' => ∃ k n : Nat, k ≤ t.size ∧ i = .int .i64 k ∧ w' = w.drewN n) (fun i _ => t.size - (intOf i).toNat)
  case atStart => exact ⟨0, 0, Nat.zero_le _, rfl, rfl⟩
  case round =>
    obtain ⟨k, n, hk, rfl, rfl⟩ := hrel
    by_cases hlt : k < t.size
    · have hi2 : s.size - t.size + k < s.size := by omega
      have he := h k hlt hi2
      clear h
      have b1 : (0:Int) ≤ (s.size : Int) - t.size + k := by omega
      have b2 : (s.size : Int) - t.size + k < s.size := by omega
      have b3 : (k : Int) < t.size := by omega
      go_wp2
      go_quiet (fail)
      go_wp2
      go_roundw
      case rel => exact ⟨k + 1, n + nq, by omega, by go_num, by simp⟩
      case measure => simp [intOf]; omega
    · go_wp2
      go_ret
      exact ⟨rfl, n, rfl⟩

theorem size_one : (⟨#[39]⟩ : ByteArray).size = 1 := rfl
theorem size_app (a : ByteArray) : (⟨#[39]⟩ ++ a : ByteArray).size = a.size + 1 := by rw [ByteArray.size_append, size_one]; omega
theorem get_app (a : ByteArray) (i : Nat) (h1 : i < a.size) (h2 : (⟨#[39]⟩ ++ a : ByteArray).size - a.size + i < (⟨#[39]⟩ ++ a : ByteArray).size) :
    (⟨#[39]⟩ ++ a : ByteArray)[(⟨#[39]⟩ ++ a : ByteArray).size - a.size + i] = a[i] := by
  have e := size_app a
  have e2 : (⟨#[39]⟩ ++ a : ByteArray).size - a.size + i = i + 1 := by omega
  simp only [e2]
  rw [ByteArray.getElem_append_right (by rw [size_one]; omega)]
  simp only [size_one, Nat.add_sub_cancel]

theorem head_app (a : ByteArray) (h : 0 < (⟨#[39]⟩ ++ a : ByteArray).size) : (⟨#[39]⟩ ++ a : ByteArray)[0] = 39 := by
  rw [ByteArray.getElem_append_left (by rw [size_one]; omega)]; rfl

theorem suffix_same (t : ByteArray) (w : World) (hs : t.size ≤ 1048576) :
    Calls Try.prog 8 #[.string t, .string t] w fun e w' => e = .returned (.bool true) ∧ ∃ n, w' = w.drewN n :=
  suffix_yes t t w (by omega) (by omega) (by intro i h1 h2; simp)

theorem suffix_app (t : ByteArray) (w : World) (hs : t.size ≤ 1048576) :
    Calls Try.prog 8 #[.string (⟨#[39]⟩ ++ t), .string t] w fun e w' => e = .returned (.bool true) ∧ ∃ n, w' = w.drewN n :=
  suffix_yes _ t w (by rw [size_app]; omega) (by rw [size_app]; omega) (fun i h1 h2 => get_app t i h1 h2)

end Go.Proofs.Qxb6602518a
