import Derived.Test.Qxb6603184aP1
import Derived.HandedShaped
import Derived.WalkKit
import Derived.ProofKit
import Derived.OpenShut
import Derived.ShutString
namespace Go.Proofs.Qxb6603184a.fnLeaderReadsBackTheNamedAddress
open Go.ChangeShapes Go.WideShapes Go.ChangeAt Go.RowKit
open Go.ChangeMaps (open_string shut_string)
set_option linter.unusedVariables false

theorem own : ownKnob Try.prog.godebug = none := by kernel_rfl

set_option maxHeartbeats 400000 in
theorem walk_big (a0 a1 : ByteArray) (h : 1048576 < a0.size + a1.size ∨ 524288 < a0.size ∨ 524288 < a1.size) (w0 : a0.size ≤ maxLen) (w1 : a1.size ≤ maxLen) (w : World) :
    Calls Try.prog 8 #[.string a0, .string a1] w fun e w' => e = .returned (.bool true) ∧ Grown w w' := by
  unfold maxLen at w0 w1
  go_enter Try.func8, Try.ntmps8
  go_wp2
  all_goals
    go_ret
    exact ⟨rfl, Grown.refl _⟩

set_option maxHeartbeats 400000 in
theorem walk_small (b a : ByteArray) (hb : b.size ≤ 524288) (ha : a.size ≤ 524288) (w : World) (hsh : w.ShapedOpen Try.prog) :
    Calls Try.prog 8 #[.string b, .string a] w fun e w' => e = .returned (.bool true) ∧ Grown w w' := by
  go_enter Try.func8, Try.ntmps8
  go_wp2
  go_loop [5] (fun i => ∃ k : Nat, k ≤ b.size ∧ i = .int .i64 k ∧ ∀ j (h : j < b.size), j < k → b[j] ≠ 32) (fun i => b.size - (intOf i).toNat)
  case atStart => exact ⟨0, Nat.zero_le _, rfl, fun j _ h => absurd h (Nat.not_lt_zero _)⟩
  case round =>
    obtain ⟨k, hk, rfl, hno0⟩ := hrel
    have hno : Hid (∀ j (h : j < b.size), j < k → b[j] ≠ 32) := hno0
    clear hno0
    by_cases hlt : k < b.size
    · by_cases hc : b[k] = 32
      · have hc' : ((b[k].toNat : Int) == 32) = true := by rw [hc]; rfl
        clear hc
        go_wp2
        go_ret
        exact ⟨rfl, Grown.refl _⟩
      · have hc' : ((b[k].toNat : Int) == 32) = false := by
          refine beq_eq_false_iff_ne.2 fun e => hc ?_
          have : b[k].toNat = 32 := by omega
          exact UInt8.toNat_inj.1 this
        have hc2 : Hid (¬ b[k] = 32) := hc
        clear hc
        go_wp2
        go_round
        case rel =>
          refine ⟨k + 1, by omega, by go_num, fun j h hj => ?_⟩
          by_cases e : j = k
          · subst e; exact hc2.out
          · exact hno.out j h (by omega)
        case measure => simp [intOf]; omega
    · have hn2 : ∀ x ∈ b.data.toList, x ≠ 32 := no_space (fun j h => hno.out j h (by omega))
      have C : Hid (Calls Try.prog 22 #[.string (PFX ++ b ++ SEP ++ a ++ SFX)] w fun e w' => e = .returned (.tuple #[.string a, .bool true]) ∧ ∃ n, w' = w.drewN n) := leader_built b a hn2 hb ha w hsh
      clear hno hn2 hsh
      go_wp2_with (go_at_call 22; refine C.out.mono ?_; rintro e w' ⟨rfl, n, rfl⟩)
      go_ret
      exact ⟨rfl, by repeat (first | exact Grown.refl _ | apply Grown.drew)⟩

theorem walk (a0 : ByteArray) (a1 : ByteArray) (w0 : a0.size ≤ maxLen) (w1 : a1.size ≤ maxLen) (w : World) (hsh : w.ShapedOpen Try.prog) :
    Calls Try.prog 8 #[.string a0, .string a1] w fun e w' => e = .returned (.bool true) ∧ Grown w w' := by
  by_cases hb : 1048576 < a0.size + a1.size ∨ 524288 < a0.size ∨ 524288 < a1.size
  · exact walk_big a0 a1 hb w0 w1 w
  · exact walk_small a0 a1 (by omega) (by omega) w hsh

set_option maxRecDepth 100000 in
theorem lifted (os : Os) (started : os.Started) (H : Type) (enc : TypeId × Value → H) :
    ReturnsInHanded {} Try.checked os 8 .any (Rows.fnLeaderReadsBackTheNamedAddressSpec.pre6 enc Try.prog Try.f8 Rows.fnLeaderReadsBackTheNamedAddressRow.domain false) (Rows.fnLeaderReadsBackTheNamedAddressSpec.post enc Try.prog Try.f8 false true false false) := by
  refine returnsInHanded_of_change_shaped (C := Try.checked) own started (by kernel_rfl) Try.func8
    (ChangeSpec.witness6 (enc := enc) (C := Try.checked) false ⟨#[], #[.string ByteArray.empty, .string ByteArray.empty], []⟩ 8 (by kernel_rfl) (by kernel_rfl) (by kernel_rfl) (by kernel_rfl)) ?_
  intro W base args ds gs before hval0 hW hcnd _ hsh _
  have hval : ∀ (j : Nat) t v, Try.f8.params[j]? = some t → args[j]? = some v → Value.okWide Try.prog W .any base t v := hval0
  have hW' := hW
  obtain ⟨p, q, hA0, hV, rfl, hfz, hnd⟩ := hW
  have hA : DataW.TrodAll enc Try.prog W 0 (fun _ => true) true Try.f8.params.toList args.toList ds p := hA0
  rw [Try.params8] at hA hval
  obtain ⟨v0, vs0, d0, ds0, p0, q0, hargs, rfl, rfl, h0, r0⟩ := trodAll_cons hA
  obtain ⟨v1, vs1, d1, ds1, p1, q1, rfl, rfl, rfl, h1, r1⟩ := trodAll_cons r0
  obtain ⟨rfl, rfl, rfl⟩ := trodAll_nil r1
  obtain rfl : args = #[v0, v1] := by cases args; simp_all
  obtain ⟨rfl, rfl⟩ := trodVars_none hV
  obtain ⟨a0, rfl, rfl, rfl, w0⟩ := open_string Try.underlying9 (hval 0 9 v0 rfl rfl) h0
  obtain ⟨a1, rfl, rfl, rfl, w1⟩ := open_string Try.underlying9 (hval 1 9 v1 rfl rfl) h1
  clear hA0 hval0
  simp only [List.append_nil] at hW'
  refine (walk a0 a1 w0 w1 W hsh).mono fun e W' ⟨he, hg⟩ => ?_
  subst he
  exact ⟨_, rfl, post_of_same (pa := []) (pv := []) hW' (fun _ _ _ => (trodAll_cons_mk (shut_bool Try.underlying4 _) trodAll_mk0)) (fun sp _ => (trodAll_cons_mk (shut_string Try.underlying9 w0) (trodAll_cons_mk (shut_string Try.underlying9 w1) trodAll_mk0))) (fun _ _ => rfl) rfl
    (hg.frame _) hg.2.1 (ok_one (by kernel_rfl) rfl (okWide_bool_mk Try.underlying4 _))⟩

theorem over : Rows.fnLeaderReadsBackTheNamedAddressRow.holds Try.pinned (OpenSpec.ofChange Rows.fnLeaderReadsBackTheNamedAddressSpec) :=
  OpenClaim.holds_of_wide 8 Try.f8 rfl rfl rfl rfl rfl rfl rfl ⟨rfl, rfl, rfl, rfl, rfl⟩ rfl rfl rfl rfl rfl (by kernel_rfl) Try.func8 (by kernel_rfl)
    (of_decide_eq_true (by kernel_rfl)) (by unfold Func.isWrapper; first | (rw [if_pos (by decide +kernel)]; kernel_rfl) | (rw [if_neg (by decide +kernel)]; exact ⟨rfl, rfl⟩))
    (fun os started H enc _ => lifted os started H enc)

theorem proved : Rows.FnLeaderReadsBackTheNamedAddressSaid :=
  over
end Go.Proofs.Qxb6603184a.fnLeaderReadsBackTheNamedAddress
