import Derived.Test.Qxb6603470aP7
import Derived.ProofKit
import Derived.OpenShut
import Derived.ShutString
import Derived.ChangeOld
import Derived.SliceStrings
namespace Go.Proofs.Qxb6603470a
open Go.ChangeShapes Go.WideShapes Go.ChangeAt Go.RowKit
open Go.ChangeMaps (open_string shut_string)
set_option linter.unusedVariables false

def IsStrs (w : World) (a : Option Addr) (len cap : Nat) (ls : List (List UInt8)) : Prop :=
  (a = none ∧ len = 0 ∧ cap = 0 ∧ ls = []) ∨ (∃ x, a = some x ∧ len = 0 ∧ ls = []) ∨
  ∃ b off, a = some ⟨b, off, none⟩ ∧ 0 < len ∧ len ≤ maxLen ∧ ls.length = len ∧ Cells w b off ls ∧ ∀ l ∈ ls, l.length ≤ maxLen

theorem isStrs_of {w : World} {x : Addr} {len cap : Nat} {ss : List ByteArray} (hl : len ≤ cap) (hm : cap ≤ maxLen) (hz : ss.length = cap)
    (hcell : ∀ i, i < ss.length → w.cell? (x.add i) = some (.string (ss.getD i ByteArray.empty))) (hs : ∀ s ∈ ss, s.size ≤ maxLen) :
    ∃ ls, IsStrs w (some x) len cap ls := by
  by_cases h0 : len = 0
  · exact ⟨[], .inr (.inl ⟨x, rfl, h0, rfl⟩)⟩
  · refine ⟨(ss.take len).map (fun s => s.data.toList), .inr (.inr ?_)⟩
    obtain ⟨b, off, spot⟩ := x
    have hspot : spot = none := by simpa [Addr.add] using World.cell?_spot (hcell 0 (by omega))
    subst hspot
    refine ⟨b, off, rfl, by omega, by omega, by simp; omega, ?_, ?_⟩
    · intro j hj
      simp at hj
      have h := hcell j (by omega)
      rw [Go.WideShapes.add_plain] at h
      rw [h]
      have e : ss.getD j ByteArray.empty = ss[j]'(by omega) := by simp [List.getD, List.getElem?_eq_getElem (show j < ss.length by omega)]
      rw [e]
      simp
    · intro l hl'
      simp only [List.mem_map] at hl'
      obtain ⟨s, hsm, rfl⟩ := hl'
      have := hs s (List.mem_of_mem_take hsm)
      rw [Array.length_toList]; exact this

theorem law4 (a : Option Addr) (len cap : Nat) (ls : List (List UInt8)) (w : World) (h : IsStrs w a len cap ls) :
    Calls Try.prog 4 #[.slice a len cap] w fun e w' => e = .returned (.bool true) ∧ Below w.heap.size w w' := by
  rcases h with ⟨rfl, rfl, rfl, _⟩ | ⟨x, rfl, rfl, _⟩ | ⟨b, off, rfl, hp, hm, hl, hc, hs⟩
  · exact law4_nil w
  · exact law4_zero x cap w
  · exact law4_some b off len cap ls hl hp hm w hc hs

theorem own : ownKnob Try.prog.godebug = none := by kernel_rfl
theorem laidOut : laidOutB Try.prog = true := by kernel_rfl

namespace fnSplitReadsBackQuotedFields
set_option maxRecDepth 100000 in
theorem lifted (os : Os) (started : os.Started) (H : Type) (enc : TypeId × Value → H) :
    ReturnsInHanded {} Try.checked os 4 .any (Rows.fnSplitReadsBackQuotedFieldsSpec.pre6 enc Try.prog Try.f4 Rows.fnSplitReadsBackQuotedFieldsRow.domain false) (Rows.fnSplitReadsBackQuotedFieldsSpec.post enc Try.prog Try.f4 false true false false) := by
  refine returnsInHanded_of_change (C := Try.checked) own started (by kernel_rfl) Try.func4
    (ChangeSpec.witness6 (enc := enc) (C := Try.checked) false ⟨#[], #[.slice none 0 0], []⟩ 8 (by kernel_rfl) (by kernel_rfl) (by kernel_rfl) (by kernel_rfl)) ?_
  intro W base args ds gs before hval0 hW hcnd _
  have hval : ∀ (j : Nat) t v, Try.f4.params[j]? = some t → args[j]? = some v → Value.okWide Try.prog W .any base t v := hval0
  have hW' := hW
  obtain ⟨p, q, hA0, hV, rfl, hfz, hnd⟩ := hW
  have hA : DataW.TrodAll enc Try.prog W 0 (fun _ => true) true Try.f4.params.toList args.toList ds p := hA0
  rw [Try.params4] at hA hval
  obtain ⟨v0, vs0, d0, ds0, p0, q0, hargs, rfl, rfl, h0, r0⟩ := trodAll_cons hA
  obtain ⟨rfl, rfl, rfl⟩ := trodAll_nil r0
  obtain rfl : args = #[v0] := by cases args; simp_all
  obtain ⟨rfl, rfl⟩ := trodVars_none hV
  obtain ⟨a0, len0, cap0, rfl⟩ := okWide_slice Try.underlying22 (hval 0 22 v0 rfl rfl)
  have k0 := h0
  have lt0 : ∀ x ∈ p0, x.block < W.heap.size := by obtain ⟨m, hm⟩ := k0; exact DataW.trod_lt m _ _ _ hm
  obtain ⟨ls, w0⟩ : ∃ ls, IsStrs W a0 len0 cap0 ls := by
    obtain ⟨fuel, hf⟩ := h0
    rcases open_strings Try.underlying22 Try.underlying9 (by kernel_rfl) hf with ⟨hcs, _⟩ | ⟨x, l, c, ss, hcs, _, hl, hm, hz, _, hcell, hws⟩
    · simp [Value.cells] at hcs
      obtain ⟨rfl, rfl, rfl⟩ := hcs
      exact ⟨[], .inl ⟨rfl, rfl, rfl, rfl⟩⟩
    · simp [Value.cells] at hcs
      obtain ⟨rfl, rfl, rfl⟩ := hcs
      exact isStrs_of hl hm (by simpa using hz) hcell hws
  clear hA0 hval0
  refine (law4 a0 len0 cap0 ls W w0).mono fun e W' ⟨he, bel⟩ => ?_
  subst he
  exact ⟨_, rfl, _, _, _, [], _, [], hW', trodAll_mk1 (shut_bool Try.underlying4 _), (trodAll_cons_mk (Below.trod laidOut (by kernel_rfl) (of_decide_eq_true (by kernel_rfl)) k0 bel lt0) trodAll_mk0), rfl, bel.frame _, fun h => by cases h⟩

theorem over : Rows.fnSplitReadsBackQuotedFieldsRow.holds Try.pinned (OpenSpec.ofChange Rows.fnSplitReadsBackQuotedFieldsSpec) :=
  OpenClaim.holds_of_wide 4 Try.f4 rfl rfl rfl rfl rfl rfl rfl ⟨rfl, rfl, rfl, rfl, rfl⟩ rfl rfl rfl rfl rfl (by kernel_rfl) Try.func4 (by kernel_rfl)
    (of_decide_eq_true (by kernel_rfl)) (by unfold Func.isWrapper; first | (rw [if_pos (by decide +kernel)]; kernel_rfl) | (rw [if_neg (by decide +kernel)]; exact ⟨rfl, rfl⟩))
    (fun os started H enc _ => lifted os started H enc)

theorem proved : Rows.FnSplitReadsBackQuotedFieldsSaid := over
end fnSplitReadsBackQuotedFields
end Go.Proofs.Qxb6603470a
