import Derived.Test.Qxb6603346aP3
import Derived.ChangeOld
import Derived.Deep.AppendLies
import Derived.WalkKit
import Derived.ProofKit
import Derived.OpenShut
import Derived.ShutString
namespace Go.Proofs.Qxb6603346a.fnValueUnquotesWhatWasQuoted
open Go.ChangeShapes Go.WideShapes Go.ChangeAt Go.RowKit
open Go.ChangeMaps (open_string shut_string)
set_option linter.unusedVariables false

theorem own : ownKnob Try.prog.godebug = none := by kernel_rfl

set_option maxHeartbeats 400000 in
theorem zzvalue (S : ByteArray) (all : Bool) (pre x tail : List UInt8) (w : World) (hS : S.data.toList = pre ++ (34 :: (E all x ++ (34 :: tail)))) (hsz : S.size ≤ 10000000) (hx : x.length ≤ 262144) :
    Calls Try.prog 6 #[.string S, .int .i64 pre.length] w fun e w' => e = .returned (.tuple #[.string ⟨x.toArray⟩, .int .i64 (posn all pre x x.length + 1 : Nat)]) ∧ Below w.heap.size w w' := by
  have hscan : Scan w.heap.size S pre.length (w.alloc (.cells #[.string S, .int .i64 pre.length] 30)) := heap_alloc_new w _
  have C : Hid (Calls Try.prog 11 #[.pointer (some ⟨w.heap.size, 0, none⟩)] (w.alloc (.cells #[.string S, .int .i64 pre.length] 30)) fun e w' => e = .returned (.string ⟨x.toArray⟩) ∧ Scan w.heap.size S (posn all pre x x.length + 1) w' ∧ Below w.heap.size (w.alloc (.cells #[.string S, .int .i64 pre.length] 30)) w') :=
    value_yes w.heap.size S all pre x tail _ hS hsz hx hscan
  clear hscan hS
  go_enter Try.func6, Try.ntmps6
  go_wp2_with (go_at_call 11; refine C.out.mono ?_; rintro e w2 ⟨rfl, hs2, hb2⟩)
  have c1 := hs2.c1
  go_quiet (fail)
  go_wp2
  go_ret2
  exact ⟨rfl, ((Below.refl _ w).alloc (Nat.le_refl _) _).trans ⟨hb2.os, hb2.tape, hb2.output, hb2.size, hb2.block⟩⟩

set_option maxHeartbeats 400000 in
theorem walk_big (a0 a1 a2 : ByteArray) (a3 : Bool) (h : 1048576 < a0.size + a1.size + a2.size ∨ 262144 < a0.size ∨ 262144 < a1.size ∨ 262144 < a2.size) (w0 : a0.size ≤ maxLen) (w1 : a1.size ≤ maxLen) (w2 : a2.size ≤ maxLen) (w : World) :
    Calls Try.prog 4 #[.string a0, .string a1, .string a2, .bool a3] w fun e w' => e = .returned (.bool true) ∧ Below w.heap.size w w' := by
  unfold maxLen at w0 w1 w2
  go_enter Try.func4, Try.ntmps4
  go_wp2_with (go_at_call 9; go_in)
  all_goals
    go_ret
    exact ⟨rfl, Below.refl _ _⟩

theorem quoted_q (x : ByteArray) (all : Bool) (w : World) (hx : x.size ≤ 262144) (q : List UInt8) (hq : q = 34 :: E all x.data.toList ++ [34]) :
    Calls Try.prog 10 #[.slice none 0 0, .string x, .bool all] w fun e w' => ∃ g cap, e = .returned (.slice (some ⟨g, 0, none⟩) q.length cap) ∧ (∀ j (hj : j < q.length), w'.cell? ((⟨g, 0, none⟩ : Addr).add j) = some (.int .u8 (q[j].toNat : Int))) ∧ Below w.heap.size w w' := by
  refine (quoted_any x all w hx).mono ?_
  rintro e w' ⟨v, rfl, hown, hb⟩
  rw [← hq] at hown
  have hpos : 0 < q.length := by rw [hq]; simp
  obtain ⟨hl, ho⟩ := hown
  rcases ho with ⟨_, h0⟩ | ⟨g, cap, cur, rfl, hg, hh, hn, hm, hsz, htk⟩
  · omega
  · refine ⟨g, cap, rfl, fun j hj => ?_, hb⟩
    have h1 : (Lib.byteCells q)[j]? = some (.int .u8 (q[j].toNat : Int)) := by simp [Lib.byteCells, List.getElem?_eq_getElem hj]
    rw [← htk, List.getElem?_take] at h1
    rw [if_pos (by omega)] at h1
    exact World.news_of_block hh j _ h1

theorem zzvalue_q (a0 a1 a2 : ByteArray) (all : Bool) (q : List UInt8) (hq : q = 34 :: E all a1.data.toList ++ [34]) (h0 : a0.size ≤ 262144) (h1 : a1.size ≤ 262144) (h2 : a2.size ≤ 262144) (w : World) :
    Calls Try.prog 6 #[.string (a0 ++ ⟨q.toArray⟩ ++ a2), .int .i64 a0.size] w fun e w' => e = .returned (.tuple #[.string a1, .int .i64 ((a0.size : Int) + q.length)]) ∧ Below w.heap.size w w' := by
  have hql : q.length ≤ 524290 := by
    have := E_len all a1.data.toList
    have e : a1.data.toList.length = a1.size := by rw [Array.length_toList]; rfl
    rw [hq]; simp; omega
  have e0 : a0.data.toList.length = a0.size := by rw [Array.length_toList]; rfl
  have e1 : a1.data.toList.length = a1.size := by rw [Array.length_toList]; rfl
  have eq1 : (ByteArray.mk q.toArray).size = q.length := by show q.toArray.size = _; simp
  have h := zzvalue (a0 ++ ⟨q.toArray⟩ ++ a2) all a0.data.toList a1.data.toList a2.data.toList w
    (by rw [hq]; simp) (by simp only [ByteArray.size_append, eq1]; omega) (by omega)
  rw [e0] at h
  refine h.mono ?_
  rintro e w' ⟨rfl, hb⟩
  refine ⟨?_, hb⟩
  have ep : posn all a0.data.toList a1.data.toList a1.data.toList.length + 1 = a0.size + q.length := by
    unfold posn
    rw [List.take_of_length_le (Nat.le_refl _), e0, hq]; simp; omega
  have ex : (ByteArray.mk a1.data.toList.toArray) = a1 := by simp
  rw [ep, ex]
  simp

set_option maxHeartbeats 400000 in
theorem walk_small (a0 a1 a2 : ByteArray) (a3 : Bool) (h0 : a0.size ≤ 262144) (h1 : a1.size ≤ 262144) (h2 : a2.size ≤ 262144) (w : World) :
    Calls Try.prog 4 #[.string a0, .string a1, .string a2, .bool a3] w fun e w' => e = .returned (.bool true) ∧ Below w.heap.size w w' := by
  obtain ⟨q, hq⟩ : ∃ q, q = 34 :: E a3 a1.data.toList ++ [34] := ⟨_, rfl⟩
  have hql : q.length ≤ 524290 := by
    have := E_len a3 a1.data.toList
    have e : a1.data.toList.length = a1.size := by rw [Array.length_toList]; rfl
    rw [hq]; simp; omega
  have C1 := fun w => quoted_q a1 a3 w h1 q hq
  have C2 := fun w => zzvalue_q a0 a1 a2 a3 q hq h0 h1 h2 w
  have D1 : Hid (∀ w, Calls Try.prog 10 #[.slice none 0 0, .string a1, .bool a3] w fun e w' => ∃ g cap, e = .returned (.slice (some ⟨g, 0, none⟩) q.length cap) ∧ (∀ j (hj : j < q.length), w'.cell? ((⟨g, 0, none⟩ : Addr).add j) = some (.int .u8 (q[j].toNat : Int))) ∧ Below w.heap.size w w') := C1
  have D2 : Hid (∀ w, Calls Try.prog 6 #[.string (a0 ++ ⟨q.toArray⟩ ++ a2), .int .i64 a0.size] w fun e w' => e = .returned (.tuple #[.string a1, .int .i64 ((a0.size : Int) + q.length)]) ∧ Below w.heap.size w w') := C2
  clear C1 C2 hq
  go_enter Try.func4, Try.ntmps4
  go_wp2_with (first | (go_at_call 10; refine (D1.out _).mono ?_; rintro e w1 ⟨g, cap, rfl, hc, hb⟩; have hconv := run_convert_bytes_back (P := Try.prog) w1 27 9 5 ⟨g, 0, none⟩ cap q Try.underlying27 Try.underlying5 Try.underlying9 hc) | (go_at_call 6; refine (D2.out _).mono ?_; rintro e w2 ⟨rfl, hb2⟩) | go_in)
  go_ret
  exact ⟨rfl, hb.trans (hb2.mono hb.size)⟩

theorem walk (a0 : ByteArray) (a1 : ByteArray) (a2 : ByteArray) (a3 : Bool) (w0 : a0.size ≤ maxLen) (w1 : a1.size ≤ maxLen) (w2 : a2.size ≤ maxLen) (w : World) :
    Calls Try.prog 4 #[.string a0, .string a1, .string a2, .bool a3] w fun e w' => e = .returned (.bool true) ∧ Below w.heap.size w w' := by
  by_cases hb : 1048576 < a0.size + a1.size + a2.size ∨ 262144 < a0.size ∨ 262144 < a1.size ∨ 262144 < a2.size
  · exact walk_big a0 a1 a2 a3 hb w0 w1 w2 w
  · exact walk_small a0 a1 a2 a3 (by omega) (by omega) (by omega) w

set_option maxRecDepth 100000 in
theorem lifted (os : Os) (started : os.Started) (H : Type) (enc : TypeId × Value → H) :
    ReturnsInHanded {} Try.checked os 4 .any (Rows.fnValueUnquotesWhatWasQuotedSpec.pre6 enc Try.prog Try.f4 Rows.fnValueUnquotesWhatWasQuotedRow.domain false) (Rows.fnValueUnquotesWhatWasQuotedSpec.post enc Try.prog Try.f4 false true false false) := by
  refine returnsInHanded_of_change (C := Try.checked) own started (by kernel_rfl) Try.func4
    (ChangeSpec.witness6 (enc := enc) (C := Try.checked) false ⟨#[], #[.string ByteArray.empty, .string ByteArray.empty, .string ByteArray.empty, .bool false], []⟩ 8 (by kernel_rfl) (by kernel_rfl) (by kernel_rfl) (by kernel_rfl)) ?_
  intro W base args ds gs before hval0 hW hcnd _
  have hval : ∀ (j : Nat) t v, Try.f4.params[j]? = some t → args[j]? = some v → Value.okWide Try.prog W .any base t v := hval0
  have hW' := hW
  obtain ⟨p, q, hA0, hV, rfl, hfz, hnd⟩ := hW
  have hA : DataW.TrodAll enc Try.prog W 0 (fun _ => true) true Try.f4.params.toList args.toList ds p := hA0
  rw [Try.params4] at hA hval
  obtain ⟨v0, vs0, d0, ds0, p0, q0, hargs, rfl, rfl, h0, r0⟩ := trodAll_cons hA
  obtain ⟨v1, vs1, d1, ds1, p1, q1, rfl, rfl, rfl, h1, r1⟩ := trodAll_cons r0
  obtain ⟨v2, vs2, d2, ds2, p2, q2, rfl, rfl, rfl, h2, r2⟩ := trodAll_cons r1
  obtain ⟨v3, vs3, d3, ds3, p3, q3, rfl, rfl, rfl, h3, r3⟩ := trodAll_cons r2
  obtain ⟨rfl, rfl, rfl⟩ := trodAll_nil r3
  obtain rfl : args = #[v0, v1, v2, v3] := by cases args; simp_all
  obtain ⟨rfl, rfl⟩ := trodVars_none hV
  obtain ⟨a0, rfl, rfl, rfl, w0⟩ := open_string Try.underlying9 (hval 0 9 v0 rfl rfl) h0
  obtain ⟨a1, rfl, rfl, rfl, w1⟩ := open_string Try.underlying9 (hval 1 9 v1 rfl rfl) h1
  obtain ⟨a2, rfl, rfl, rfl, w2⟩ := open_string Try.underlying9 (hval 2 9 v2 rfl rfl) h2
  obtain ⟨a3, rfl, rfl, rfl⟩ := open_bool Try.underlying4 (hval 3 4 v3 rfl rfl) h3
  clear hA0 hval0
  refine (walk a0 a1 a2 a3 w0 w1 w2 W).mono fun e W' ⟨he, bel⟩ => ?_
  subst he
  exact ⟨_, rfl, _, _, _, [], _, [], hW', trodAll_mk1 (shut_bool Try.underlying4 _), (trodAll_cons_mk (shut_string Try.underlying9 w0) (trodAll_cons_mk (shut_string Try.underlying9 w1) (trodAll_cons_mk (shut_string Try.underlying9 w2) (trodAll_cons_mk (shut_bool Try.underlying4 _) trodAll_mk0)))), rfl, bel.frame _, fun h => by cases h⟩

theorem over : Rows.fnValueUnquotesWhatWasQuotedRow.holds Try.pinned (OpenSpec.ofChange Rows.fnValueUnquotesWhatWasQuotedSpec) :=
  OpenClaim.holds_of_wide 4 Try.f4 rfl rfl rfl rfl rfl rfl rfl ⟨rfl, rfl, rfl, rfl, rfl⟩ rfl rfl rfl rfl rfl (by kernel_rfl) Try.func4 (by kernel_rfl)
    (of_decide_eq_true (by kernel_rfl)) (by unfold Func.isWrapper; first | (rw [if_pos (by decide +kernel)]; kernel_rfl) | (rw [if_neg (by decide +kernel)]; exact ⟨rfl, rfl⟩))
    (fun os started H enc _ => lifted os started H enc)

theorem proved : Rows.FnValueUnquotesWhatWasQuotedSaid :=
  over
end Go.Proofs.Qxb6603346a.fnValueUnquotesWhatWasQuoted
