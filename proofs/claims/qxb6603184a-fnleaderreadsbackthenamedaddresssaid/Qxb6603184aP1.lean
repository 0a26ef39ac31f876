import Derived.Test.Qxb6603184aRows
import Derived.Test.Qxb6603184aShelf
import Derived.WalkKit
import Derived.WalkSpells
import Derived.BigQuiet
namespace Go.Proofs.Qxb6603184a
open Go.RowKit

abbrev PFX : ByteArray := ⟨#[69, 82, 82, 79, 82, 32, 110, 111, 116, 32, 116, 104, 101, 32, 108, 101, 97, 100, 101, 114, 32, 111, 102, 32, 98, 114, 97, 110, 99, 104, 32]⟩
abbrev SEP : ByteArray := ⟨#[32, 97, 116, 32]⟩
abbrev SFX : ByteArray := ⟨#[32, 108, 101, 97, 100, 115, 32, 105, 116]⟩

theorem ba_ext {a b : ByteArray} (h : a.data.toList = b.data.toList) : a = b := by
  obtain ⟨⟨a⟩⟩ := a; obtain ⟨⟨b⟩⟩ := b; simp at h; rw [h]

theorem trimPrefix_app (p m : List UInt8) : Lib.trimPrefix (p ++ m) p = m := by
  simp [Lib.trimPrefix, Lib.hasPrefix]
theorem hasPrefix_app (p m : List UInt8) : Lib.hasPrefix (p ++ m) p = true := by
  simp [Lib.hasPrefix]
theorem hasSuffix_app (p m : List UInt8) : Lib.hasSuffix (m ++ p) p = true := by
  simp [Lib.hasSuffix]
theorem trimSuffix_app (p m : List UInt8) : Lib.trimSuffix (m ++ p) p = m := by
  simp [Lib.trimSuffix, hasSuffix_app]

theorem index_at (b a : List UInt8) (hb : ∀ x ∈ b, x ≠ 32) : Lib.index (b ++ ([32, 97, 116, 32] ++ a)) [32, 97, 116, 32] = b.length := by
  refine Lib.index_first (by simp) ?_ ?_
  · simp [Lib.occAt]
  · intro j hj
    have hx : ((b ++ ([32, 97, 116, 32] ++ a)).drop j) = b[j] :: ((b ++ ([32, 97, 116, 32] ++ a)).drop (j + 1)) := by
      rw [List.drop_eq_getElem_cons (by simp; omega), List.getElem_append_left hj]
    simp only [Lib.occAt, hx]
    have : b[j] ≠ 32 := hb _ (List.getElem_mem hj)
    simp [List.isPrefixOf, Ne.symm this]

theorem cut_at (b a : List UInt8) (hb : ∀ x ∈ b, x ≠ 32) : Lib.cut (b ++ ([32, 97, 116, 32] ++ a)) [32, 97, 116, 32] = (b, a, true) := by
  have h := index_at b a hb
  unfold Lib.cut
  rw [h]
  simp

theorem cutPrefix_P (R M : ByteArray) (h : R.data.toList = PFX.data.toList ++ M.data.toList) (w : World) :
    Calls Try.prog 24 #[.string R, .string PFX] w fun e w' => e = .returned (.tuple #[.string M, .bool true]) ∧ w' = w := by
  refine (Try.strings_CutPrefix R PFX w).mono ?_
  rintro e w' ⟨rfl, rfl⟩
  rw [h, trimPrefix_app, hasPrefix_app]
  exact ⟨rfl, rfl⟩

theorem cutSuffix_L (M K : ByteArray) (h : M.data.toList = K.data.toList ++ SFX.data.toList) (hs : M.size ≤ 9223372036854775807) (w : World) :
    Calls Try.prog 25 #[.string M, .string SFX] w fun e w' => e = .returned (.tuple #[.string K, .bool true]) ∧ w' = w := by
  refine (Try.strings_CutSuffix M SFX w hs).mono ?_
  rintro e w' ⟨rfl, rfl⟩
  rw [h, trimSuffix_app, hasSuffix_app]
  exact ⟨rfl, rfl⟩

theorem cut_S (K b a : ByteArray) (h : K.data.toList = b.data.toList ++ ([32, 97, 116, 32] ++ a.data.toList)) (hb : ∀ x ∈ b.data.toList, x ≠ 32) (hs : K.size < 4294967281) (w : World) (hsh : w.ShapedOpen Try.prog) :
    Calls Try.prog 26 #[.string K, .string SEP] w fun e w' => e = .returned (.tuple #[.string b, .string a, .bool true]) ∧ ∃ n, w' = w.drewN n := by
  refine (Try.strings_Cut_shaped K SEP w hsh hs).mono ?_
  rintro e w' ⟨rfl, hw⟩
  have e1 : SEP.data.toList = [32, 97, 116, 32] := rfl
  rw [h, e1, cut_at _ _ hb]
  exact ⟨rfl, hw⟩

set_option maxHeartbeats 400000 in
theorem leader (R M K b a : ByteArray) (h1 : R.data.toList = PFX.data.toList ++ M.data.toList) (h2 : M.data.toList = K.data.toList ++ SFX.data.toList)
    (h3 : K.data.toList = b.data.toList ++ ([32, 97, 116, 32] ++ a.data.toList)) (hb : ∀ x ∈ b.data.toList, x ≠ 32) (hs : M.size ≤ 9223372036854775807) (hs2 : K.size < 4294967281)
    (w : World) (hsh : w.ShapedOpen Try.prog) :
    Calls Try.prog 22 #[.string R] w fun e w' => e = .returned (.tuple #[.string a, .bool true]) ∧ ∃ n, w' = w.drewN n := by
  go_enter Try.func22, Try.ntmps22
  go_wp2_with (first | (go_at_call 24; refine (cutPrefix_P R M h1 _).mono ?_; rintro e w' ⟨rfl, rfl⟩) | (go_at_call 25; refine (cutSuffix_L M K h2 hs _).mono ?_; rintro e w' ⟨rfl, rfl⟩) | (go_at_call 26; refine (cut_S K b a h3 hb hs2 _ hsh).mono ?_; rintro e w' ⟨rfl, n, rfl⟩))
  go_ret2
  exact ⟨rfl, n, rfl⟩

theorem leader_built (b a : ByteArray) (hb : ∀ x ∈ b.data.toList, x ≠ 32) (h1 : b.size ≤ 524288) (h2 : a.size ≤ 524288) (w : World) (hsh : w.ShapedOpen Try.prog) :
    Calls Try.prog 22 #[.string (PFX ++ b ++ SEP ++ a ++ SFX)] w fun e w' => e = .returned (.tuple #[.string a, .bool true]) ∧ ∃ n, w' = w.drewN n := by
  have e1 : PFX.size = 31 := rfl
  have e2 : SEP.size = 4 := rfl
  have e3 : SFX.size = 9 := rfl
  refine leader _ (b ++ SEP ++ a ++ SFX) (b ++ SEP ++ a) b a ?_ ?_ ?_ hb ?_ ?_ w hsh
  · simp only [ByteArray.data_append, Array.toList_append, List.append_assoc]
  · simp only [ByteArray.data_append, Array.toList_append]
  · simp only [ByteArray.data_append, Array.toList_append, List.append_assoc]
  · simp only [ByteArray.size_append, e2, e3]; omega
  · simp only [ByteArray.size_append, e2]; omega

theorem no_space {b : ByteArray} (h : ∀ j (h : j < b.size), b[j] ≠ 32) : ∀ x ∈ b.data.toList, x ≠ 32 := by
  intro x hx
  obtain ⟨j, hj, rfl⟩ := List.getElem_of_mem hx
  exact h j (by simpa using hj)

end Go.Proofs.Qxb6603184a
