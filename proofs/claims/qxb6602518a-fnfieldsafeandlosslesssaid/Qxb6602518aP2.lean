import Derived.Test.Qxb6602518aP1
import Derived.WalkKit
import Derived.ProofKit
import Derived.OpenShut
import Derived.ShutString
namespace Go.Proofs.Qxb6602518a.fnFieldSafeAndLossless
open Go.ChangeShapes Go.WideShapes Go.ChangeAt Go.RowKit
open Go.ChangeMaps (open_string shut_string)
set_option linter.unusedVariables false

theorem own : ownKnob Try.prog.godebug = none := by kernel_rfl

set_option maxHeartbeats 400000 in
theorem walk_big (a0 : ByteArray) (h : 1048576 < a0.size) (w0 : a0.size ≤ maxLen) (w : World) :
    Calls Try.prog 3 #[.string a0] w fun e w' => e = .returned (.bool true) ∧ Grown w w' := by
  unfold maxLen at w0
  go_enter Try.func3, Try.ntmps3
  go_wp2
  go_ret
  exact ⟨rfl, Grown.refl _⟩

set_option maxHeartbeats 400000 in
theorem walk_empty (w : World) :
    Calls Try.prog 3 #[.string ⟨#[]⟩] w fun e w' => e = .returned (.bool true) ∧ Grown w w' := by
  go_enter Try.func3, Try.ntmps3
  go_wp2_with (first | (go_at_call 6; refine (field_empty _).mono ?_; rintro e w' ⟨rfl, rfl⟩) | (go_at_call 8; refine (suffix_same _ _ (by decide)).mono ?_; rintro e w' ⟨rfl, n, rfl⟩) | go_in)
  go_ret
  exact ⟨rfl, by repeat (first | exact Grown.refl _ | apply Grown.drewN | apply Grown.drew | apply Grown.alloc)⟩

set_option maxHeartbeats 400000 in
theorem walk_no (a : ByteArray) (h : 0 < a.size) (hs : a.size ≤ 1048576) (hi : ¬ (0:Int) ≤ Lib.indexByte [61, 43, 45, 64, 9, 13, 0] a[0]) (w : World) :
    Calls Try.prog 3 #[.string a] w fun e w' => e = .returned (.bool true) ∧ Grown w w' := by
  obtain ⟨h1, h2, h3, h4, h5, h6, h7⟩ := no_of_index _ hi
  have hz : ((a.size : Int) == 0) = false := beq_eq_false_iff_ne.2 (by omega)
  have hz' : (a.size == 0) = false := beq_eq_false_iff_ne.2 (by omega)
  go_enter Try.func3, Try.ntmps3
  go_wp2_with (first | (go_at_call 6; refine (field_no _ _ h hi).mono ?_; rintro e w' ⟨rfl, rfl⟩) | (go_at_call 7; refine (start_no _ _ h1 h2 h3 h4 h5 h6 h7).mono ?_; rintro e w' ⟨rfl, rfl⟩) | (go_at_call 8; refine (suffix_same _ _ hs).mono ?_; rintro e w' ⟨rfl, n, rfl⟩) | go_in)
  go_ret
  exact ⟨rfl, by repeat (first | exact Grown.refl _ | apply Grown.drewN | apply Grown.drew | apply Grown.alloc)⟩

set_option maxHeartbeats 400000 in
theorem walk_yes (a : ByteArray) (h : 0 < a.size) (hs : a.size ≤ 1048576) (hi : (0:Int) ≤ Lib.indexByte [61, 43, 45, 64, 9, 13, 0] a[0]) (w : World) :
    Calls Try.prog 3 #[.string a] w fun e w' => e = .returned (.bool true) ∧ Grown w w' := by
  have hz : ((a.size : Int) == 0) = false := beq_eq_false_iff_ne.2 (by omega)
  have hz' : (a.size == 0) = false := beq_eq_false_iff_ne.2 (by omega)
  have h0 := head_app a (by rw [size_app]; omega)
  go_enter Try.func3, Try.ntmps3
  go_wp2_with (first | (go_at_call 6; refine (field_yes _ _ h hs hi).mono ?_; rintro e w' ⟨rfl, rfl⟩) | (go_at_call 8; refine (suffix_app _ _ hs).mono ?_; rintro e w' ⟨rfl, n, rfl⟩) | go_in)
  go_ret
  exact ⟨rfl, by repeat (first | exact Grown.refl _ | apply Grown.drewN | apply Grown.drew | apply Grown.alloc)⟩

theorem walk (a0 : ByteArray) (w0 : a0.size ≤ maxLen) (w : World) :
    Calls Try.prog 3 #[.string a0] w fun e w' => e = .returned (.bool true) ∧ Grown w w' := by
  by_cases hb : 1048576 < a0.size
  · exact walk_big a0 hb w0 w
  · by_cases h : 0 < a0.size
    · by_cases hi : (0:Int) ≤ Lib.indexByte [61, 43, 45, 64, 9, 13, 0] a0[0]
      · exact walk_yes a0 h (by omega) hi w
      · exact walk_no a0 h (by omega) hi w
    · have : a0 = ⟨#[]⟩ := by
        obtain ⟨d⟩ := a0
        have : d.size = 0 := by simpa [ByteArray.size] using h
        rw [Array.eq_empty_of_size_eq_zero this]
      rw [this]; exact walk_empty w

set_option maxRecDepth 100000 in
theorem lifted (os : Os) (started : os.Started) (H : Type) (enc : TypeId × Value → H) :
    ReturnsInHanded {} Try.checked os 3 .any (Rows.fnFieldSafeAndLosslessSpec.pre6 enc Try.prog Try.f3 Rows.fnFieldSafeAndLosslessRow.domain false) (Rows.fnFieldSafeAndLosslessSpec.post enc Try.prog Try.f3 false true false false) := by
  refine returnsInHanded_of_change (C := Try.checked) own started (by kernel_rfl) Try.func3
    (ChangeSpec.witness6 (enc := enc) (C := Try.checked) false ⟨#[], #[.string ByteArray.empty], []⟩ 8 (by kernel_rfl) (by kernel_rfl) (by kernel_rfl) (by kernel_rfl)) ?_
  intro W base args ds gs before hval0 hW hcnd _
  have hval : ∀ (j : Nat) t v, Try.f3.params[j]? = some t → args[j]? = some v → Value.okWide Try.prog W .any base t v := hval0
  have hW' := hW
  obtain ⟨p, q, hA0, hV, rfl, hfz, hnd⟩ := hW
  have hA : DataW.TrodAll enc Try.prog W 0 (fun _ => true) true Try.f3.params.toList args.toList ds p := hA0
  rw [Try.params3] at hA hval
  obtain ⟨v0, vs0, d0, ds0, p0, q0, hargs, rfl, rfl, h0, r0⟩ := trodAll_cons hA
  obtain ⟨rfl, rfl, rfl⟩ := trodAll_nil r0
  obtain rfl : args = #[v0] := by cases args; simp_all
  obtain ⟨rfl, rfl⟩ := trodVars_none hV
  obtain ⟨a0, rfl, rfl, rfl, w0⟩ := open_string Try.underlying9 (hval 0 9 v0 rfl rfl) h0
  clear hA0 hval0
  simp only [List.append_nil] at hW'
  refine (walk a0 w0 W).mono fun e W' ⟨he, hg⟩ => ?_
  subst he
  exact ⟨_, rfl, post_of_same (pa := []) (pv := []) hW' (fun _ _ _ => (trodAll_cons_mk (shut_bool Try.underlying4 _) trodAll_mk0)) (fun sp _ => (trodAll_cons_mk (shut_string Try.underlying9 w0) trodAll_mk0)) (fun _ _ => rfl) rfl
    (hg.frame _) hg.2.1 (ok_one (by kernel_rfl) rfl (okWide_bool_mk Try.underlying4 _))⟩

theorem over : Rows.fnFieldSafeAndLosslessRow.holds Try.pinned (OpenSpec.ofChange Rows.fnFieldSafeAndLosslessSpec) :=
  OpenClaim.holds_of_wide 3 Try.f3 rfl rfl rfl rfl rfl rfl rfl ⟨rfl, rfl, rfl, rfl, rfl⟩ rfl rfl rfl rfl rfl (by kernel_rfl) Try.func3 (by kernel_rfl)
    (of_decide_eq_true (by kernel_rfl)) (by unfold Func.isWrapper; first | (rw [if_pos (by decide +kernel)]; kernel_rfl) | (rw [if_neg (by decide +kernel)]; exact ⟨rfl, rfl⟩))
    (fun os started H enc _ => lifted os started H enc)

theorem proved : Rows.FnFieldSafeAndLosslessSaid :=
  over
end Go.Proofs.Qxb6602518a.fnFieldSafeAndLossless
