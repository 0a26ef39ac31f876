import Derived.Test.Qxb6603470aP5
import Derived.Deep.AppendLies
import Derived.Laws.BytesArg
import Derived.Laws.IdiomStrings
namespace Go.Proofs.Qxb6603470a
open Go.RowKit

def OwnB (B : Nat) (w0 w : World) (v : Value) (l : List UInt8) : Prop :=
  w.ownsRow B 5 1 v l.length (Lib.byteCells l) ∧ Below B w0 w

theorem OwnB.nil (w : World) : OwnB w.heap.size w w (.slice none 0 0) [] := ⟨World.ownsRow_nil _ _ _ _, Below.refl _ _⟩

theorem app_byte {ops : Array Oper} {rest : List Oper} {o : Oper} {a : Act} {Q : Exit → Act → World → Prop} (hgd : o.guard = none) (s x : Operand)
    (ho : o.op = .call { callee := .builtin .append, args := #[s, x], argTypes := #[52, 52] })
    (w0 w : World) (v : Value) (l : List UInt8) (hs : a.eval s = v) (hown : OwnB w0.heap.size w0 w v l) (c : UInt8) (cz : Int) (hc : cz = c.toNat)
    (hx : a.eval x = .slice (some ⟨w.heap.size, 0, none⟩) 1 1) (hlen : l.length ≤ 1000000000000)
    (h : ∀ v' w', OwnB w0.heap.size w0 w' v' (l ++ [c]) → wpList Try.prog ops Q rest (a.put o.dst v') w') :
    wpList Try.prog ops Q (o :: rest) a (w.alloc (.cells #[.int .u8 cz] 5)) := by
  subst hc
  obtain ⟨i0, hi, hz0, hz1, hz2⟩ := info_parts Try.info5
  obtain ⟨ho1, hb⟩ := hown
  have hsz := hb.size
  refine wpList_append_own _ hgd s x 52 ho w0.heap.size 5 i0 (.int .u8 0) 1 1 Try.underlying52 hi hz0 hz1 hz2 rfl (by decide) v l.length (Lib.byteCells l) hs (ho1.alloc _) ⟨w.heap.size, 0, none⟩ 1 1 [.int .u8 c.toNat] hx rfl ?_ ?_ ?_ ?_ ?_ ?_
  · intro j u hj
    match j, hj with
    | 0, hj => simp at hj; subst hj; simp [Addr.add]
  · intro u hu; simp at hu; subst hu; rfl
  · unfold maxLen; omega
  · omega
  · simp; omega
  · intro v' w' h1 hg _
    refine h v' w' ⟨?_, ?_⟩
    · simpa [Lib.byteCells] using h1
    · exact (hb.alloc hsz _).grown hg (by simp; omega) (fun k hk => (ho1.lt k hk).1)

theorem OwnB.conv {B : Nat} {w0 w : World} {v : Value} {l : List UInt8} (h : OwnB B w0 w v l) : (convert 52 9 v).run Try.prog w = .ok (.string ⟨l.toArray⟩) w := by
  obtain ⟨⟨hl, ho⟩, _⟩ := h
  rcases ho with ⟨rfl, h0⟩ | ⟨g, cap, cur, rfl, hg, hh, hn, hm, hsz, htk⟩
  · have : l = [] := List.eq_nil_of_length_eq_zero h0
    subst this
    exact run_convert_bytes_nil w 52 5 Try.underlying52 Try.underlying5 0 0 9 Try.underlying9
  · refine run_convert_bytes_back (P := Try.prog) w 52 9 5 ⟨g, 0, none⟩ cap l Try.underlying52 Try.underlying5 Try.underlying9 (fun j hj => ?_)
    have h1 : (Lib.byteCells l)[j]? = some (.int .u8 (l[j].toNat : Int)) := by simp [Lib.byteCells, List.getElem?_eq_getElem hj]
    rw [← htk, List.getElem?_take, if_pos (by omega)] at h1
    exact World.news_of_block hh j _ h1

set_option maxHeartbeats 400000 in
theorem qj_zero (a : Option Addr) (cap : Nat) (w : World) :
    Calls Try.prog 12 #[.slice a 0 cap] w fun e w' => e = .returned (.string ⟨#[]⟩) ∧ w = w' := by
  have hcv := OwnB.conv (OwnB.nil w)
  go_enter Try.func12, Try.ntmps12
  go_wp2
  go_loop [3, 4] (fun v i => v = .slice none 0 0 ∧ i = .int .i64 0) (fun _ _ => 0)
  case atStart => exact ⟨rfl, rfl⟩
  case round =>
    obtain ⟨rfl, rfl⟩ := hrel
    go_wp2
    go_ret
    exact ⟨rfl, rfl⟩

def pre (ls : List (List UInt8)) (k : Nat) : List UInt8 := if k = 0 then [] else qj (ls.take k) ++ [32]
theorem qj_step (ls : List (List UInt8)) (k : Nat) (h : k < ls.length) : qj (ls.take (k + 1)) = pre ls k ++ 34 :: E ls[k] ++ [34] := by
  rw [take_snocL ls k h, qj_snoc]
  unfold pre
  by_cases hk : k = 0
  · subst hk; simp [qt]
  · rw [if_neg hk, if_neg (by intro e; have := congrArg List.length e; rw [List.length_take, List.length_nil] at this; omega)]
    simp [qt]
theorem qt_len (l : List UInt8) : (qt l).length ≤ 2 * l.length + 2 := by
  have := E_len l
  simp [qt]; omega
theorem qj_len (ls : List (List UInt8)) : (qj ls).length ≤ 2 * tot ls + 3 * ls.length := by
  induction ls with
  | nil => simp [qj]
  | cons x l ih =>
    have h1 := qt_len x
    cases l with
    | nil => simp [qj, tot]; omega
    | cons y r =>
      simp only [qj, tot, List.length_append, List.length_cons, List.map_cons, List.sum_cons] at ih ⊢
      omega
theorem tot_take (ls : List (List UInt8)) (k : Nat) : tot (ls.take k) ≤ tot ls := by
  have h : tot ls = tot (ls.take k) + tot (ls.drop k) := by
    unfold tot
    rw [← List.sum_append, ← List.map_append, List.take_append_drop]
  omega
theorem tot_mem (ls : List (List UInt8)) (k : Nat) (h : k < ls.length) : ls[k].length ≤ tot ls := by
  have h1 := tot_take ls (k + 1)
  rw [take_snocL ls k h, tot_snoc] at h1
  omega

set_option maxHeartbeats 2000000 in
set_option maxRecDepth 100000 in
theorem qj_some (g len cap : Nat) (ls : List (List UInt8)) (hlen : ls.length = len) (hm : len ≤ 1048576) (htot : tot ls ≤ 1048576) (w : World) (hc : Cells w g 0 ls) :
    Calls Try.prog 12 #[.slice (some ⟨g, 0, none⟩) len cap] w fun e w' => e = .returned (.string ⟨(qj ls).toArray⟩) ∧ Below w.heap.size w w' := by
  have HC : Hid (Cells w g 0 ls) := hc
  have HH : Hid (ls.length = len) := hlen
  have HN : Hid (OwnB w.heap.size w w (.slice none 0 0) (qj (ls.take 0))) := OwnB.nil w
  clear hc hlen
  go_enter Try.func12, Try.ntmps12
  go_wp2
  go_loopw [3, 4] (fun v i wr => ∃ k : Nat, k ≤ len ∧ i = .int .i64 k ∧ OwnB w.heap.size w wr v (qj (ls.take k))) (fun _ i _ => len - (intOf i).toNat)
  case atStart => exact ⟨0, Nat.zero_le _, rfl, HN.out⟩
  case round =>
    obtain ⟨k, hk, rfl, hown⟩ := hrel
    clear HN
    by_cases hlt : k < len
    · have hk2 : k < ls.length := by have := HH.out; omega
      have HQ : Hid (qj (ls.take (k + 1)) = pre ls k ++ 34 :: E ls[k] ++ [34]) := qj_step ls k hk2
      have hpl : (qj (ls.take k)).length ≤ 6000000 := by
        have h1 := qj_len (ls.take k)
        have h2 := tot_take ls k
        have h3 : (ls.take k).length ≤ k := List.length_take_le _ _
        omega
      have hsl : ls[k].length ≤ 1048576 := Nat.le_trans (tot_mem ls k hk2) htot
      have HCK : Hid (w.cell? ⟨g, k, none⟩ = some (.string ⟨ls[k].toArray⟩)) := by
        show _ = _
        have := HC.out k hk2
        simpa using this
      have HGL : g < w.heap.size := World.block_lt_of_cell? w _ HCK.out
      generalize hs : ls[k] = s at *
      clear hs hk2
      have HPL : Hid ((qj (ls.take k)).length ≤ 6000000) := hpl
      clear hpl
      by_cases hk0 : k = 0
      · subst hk0
        have hP : OwnB w.heap.size w wr u3 (pre ls 0) := by simpa [pre, qj] using hown
        have HPL2 : Hid ((pre ls 0).length ≤ 6000001) := by show _ ≤ _; simp [pre]
        clear hown HPL
        go_wp2_with (at_builtin; refine app_byte (by rfl) (.tmp 18) (.tmp 19) (by rfl) w wr _ _ (by rfl) hP 34 34 (by rfl) (by rfl) (by have := HPL2.out; omega) ?_)
        intro v2 w2 hP2
        have hcell : w2.cell? ⟨g, 0, none⟩ = some (.string ⟨s.toArray⟩) := (hP2.2.cell (p := ⟨g, 0, none⟩) HGL).trans HCK.out
        clear hP
        go_wp2
        go_loopw [3, 6] (fun v i wr => ∃ j : Nat, j ≤ s.length ∧ i = .int .i64 j ∧ OwnB w.heap.size w wr v (pre ls 0 ++ 34 :: E (s.take j))) (fun _ i _ => s.length - (intOf i).toNat)
        case atStart => exact ⟨0, Nat.zero_le _, rfl, by simpa [E] using hP2⟩
        case round =>
          obtain ⟨j, hj, rfl, hJ⟩ := hrel
          clear hP2 hcell
          have HJL : Hid ((pre ls 0 ++ 34 :: E (s.take j)).length ≤ 10000000) := by
            show _ ≤ _
            have h1 := HPL2.out
            have h2 := E_len (s.take j)
            have h3 : (s.take j).length ≤ j := List.length_take_le _ _
            simp; omega
          have hsz : (ByteArray.mk s.toArray).size = s.length := size_mk s
          by_cases hlj : j < s.length
          · have hget : (ByteArray.mk s.toArray)[j]'(by rw [hsz]; exact hlj) = s[j] := by simp [ByteArray.getElem_eq_getElem_data]
            have HT : Hid (E (s.take (j + 1)) = E (s.take j) ++ esc s[j]) := by
              show _ = _
              rw [List.take_succ_eq_append_getElem hlj, E_snoc]
            by_cases hc : s[j] = 34 ∨ s[j] = 92
            · have HX : Hid (esc s[j] = [92, s[j]]) := by show _ = _; unfold esc; rw [if_pos hc]
              have hq : (((s[j].toNat : Int) == 34) = true) ∨ (((s[j].toNat : Int) == 34) = false ∧ ((s[j].toNat : Int) == 92) = true) := by
                rcases hc with h | h
                · exact .inl (by rw [h]; rfl)
                · exact .inr ⟨by rw [h]; rfl, by rw [h]; rfl⟩
              clear hc
              rcases hq with hq1 | ⟨hq1, hq2⟩
              all_goals
                go_wp2_with (at_builtin; refine app_byte (by rfl) (.tmp 41) (.tmp 42) (by rfl) w wr _ _ (by rfl) hJ 92 92 (by rfl) (by rfl) (by have := HJL.out; omega) ?_)
                intro v3 w3 hJ3
                clear hJ
                go_wp2_with (at_builtin; refine app_byte (by rfl) (.tmp 44) (.tmp 48) (by rfl) w w3 _ _ (by rfl) hJ3 s[j] _ (by rfl) (by rfl) (by have := HJL.out; simp at this ⊢; omega) ?_)
                intro v4 w4 hJ4
                have HO : Hid (OwnB w.heap.size w w4 v4 (pre ls 0 ++ 34 :: E (s.take (j + 1)))) := by
                  show OwnB _ _ _ _ _
                  rw [HT.out, HX.out]; simpa using hJ4
                clear hJ3 hJ4
                go_wp2
                go_roundw
                case rel => exact ⟨j + 1, by omega, by go_num, HO.out⟩
                case measure => simp [intOf]; omega
            · have h1 : ¬ s[j] = 34 := fun e => hc (.inl e)
              have h2 : ¬ s[j] = 92 := fun e => hc (.inr e)
              have HX : Hid (esc s[j] = [s[j]]) := by show _ = _; unfold esc; rw [if_neg hc]
              have q1 : ((s[j].toNat : Int) == 34) = false := by rw [show ((s[j].toNat : Int) == 34) = (s[j] == 34) from beq_byte s[j] 34 (by omega)]; exact beq_eq_false_iff_ne.2 h1
              have q2 : ((s[j].toNat : Int) == 92) = false := by rw [show ((s[j].toNat : Int) == 92) = (s[j] == 92) from beq_byte s[j] 92 (by omega)]; exact beq_eq_false_iff_ne.2 h2
              clear hc h1 h2
              go_wp2_with (at_builtin; refine app_byte (by rfl) (.tmp 44) (.tmp 48) (by rfl) w wr _ _ (by rfl) hJ s[j] _ (by rfl) (by rfl) (by have := HJL.out; omega) ?_)
              intro v4 w4 hJ4
              have HO : Hid (OwnB w.heap.size w w4 v4 (pre ls 0 ++ 34 :: E (s.take (j + 1)))) := by
                show OwnB _ _ _ _ _
                rw [HT.out, HX.out]; simpa using hJ4
              clear hJ hJ4
              go_wp2
              go_roundw
              case rel => exact ⟨j + 1, by omega, by go_num, HO.out⟩
              case measure => simp [intOf]; omega
          · have HT : Hid (s.take j = s) := List.take_of_length_le (by omega)
            go_wp2_with (at_builtin; refine app_byte (by rfl) (.tmp 50) (.tmp 51) (by rfl) w wr _ _ (by rfl) hJ 34 34 (by rfl) (by rfl) (by have := HJL.out; omega) ?_)
            intro v3 w3 hJ3
            have HO : Hid (OwnB w.heap.size w w3 v3 (qj (ls.take (0 + 1)))) := by
              show OwnB _ _ _ _ _
              rw [HQ.out]; rw [HT.out] at hJ3; simpa using hJ3
            clear hJ hJ3
            go_wp2
            go_roundw
            case rel => exact ⟨0 + 1, by omega, by go_num, HO.out⟩
            case measure => simp [intOf]; omega
      · have HE : Hid (pre ls k = qj (ls.take k) ++ [32]) := by show _ = _; unfold pre; rw [if_neg hk0]
        have HPL2 : Hid ((pre ls k).length ≤ 6000001) := by show _ ≤ _; rw [HE.out]; have := HPL.out; simp; omega
        have hpos : 0 < k := by omega
        go_wp2_with (at_builtin; refine app_byte (by rfl) (.tmp 15) (.tmp 16) (by rfl) w wr _ _ (by rfl) hown 32 32 (by rfl) (by rfl) (by have := HPL.out; omega) ?_)
        intro v1 w1 hP0
        have hP : OwnB w.heap.size w w1 v1 (pre ls k) := by rw [HE.out]; exact hP0
        clear hP0 hown HPL HE
        go_wp2_with (at_builtin; refine app_byte (by rfl) (.tmp 18) (.tmp 19) (by rfl) w w1 _ _ (by rfl) hP 34 34 (by rfl) (by rfl) (by have := HPL2.out; omega) ?_)
        intro v2 w2 hP2
        have hcell : w2.cell? ⟨g, k, none⟩ = some (.string ⟨s.toArray⟩) := (hP2.2.cell (p := ⟨g, k, none⟩) HGL).trans HCK.out
        clear hP
        go_wp2
        go_loopw [3, 6] (fun v i wr => ∃ j : Nat, j ≤ s.length ∧ i = .int .i64 j ∧ OwnB w.heap.size w wr v (pre ls k ++ 34 :: E (s.take j))) (fun _ i _ => s.length - (intOf i).toNat)
        case atStart => exact ⟨0, Nat.zero_le _, rfl, by simpa [E] using hP2⟩
        case round =>
          obtain ⟨j, hj, rfl, hJ⟩ := hrel
          clear hP2 hcell
          have HJL : Hid ((pre ls k ++ 34 :: E (s.take j)).length ≤ 10000000) := by
            show _ ≤ _
            have h1 := HPL2.out
            have h2 := E_len (s.take j)
            have h3 : (s.take j).length ≤ j := List.length_take_le _ _
            simp; omega
          have hsz : (ByteArray.mk s.toArray).size = s.length := size_mk s
          by_cases hlj : j < s.length
          · have hget : (ByteArray.mk s.toArray)[j]'(by rw [hsz]; exact hlj) = s[j] := by simp [ByteArray.getElem_eq_getElem_data]
            have HT : Hid (E (s.take (j + 1)) = E (s.take j) ++ esc s[j]) := by
              show _ = _
              rw [List.take_succ_eq_append_getElem hlj, E_snoc]
            by_cases hc : s[j] = 34 ∨ s[j] = 92
            · have HX : Hid (esc s[j] = [92, s[j]]) := by show _ = _; unfold esc; rw [if_pos hc]
              have hq : (((s[j].toNat : Int) == 34) = true) ∨ (((s[j].toNat : Int) == 34) = false ∧ ((s[j].toNat : Int) == 92) = true) := by
                rcases hc with h | h
                · exact .inl (by rw [h]; rfl)
                · exact .inr ⟨by rw [h]; rfl, by rw [h]; rfl⟩
              clear hc
              rcases hq with hq1 | ⟨hq1, hq2⟩
              all_goals
                go_wp2_with (at_builtin; refine app_byte (by rfl) (.tmp 41) (.tmp 42) (by rfl) w wr _ _ (by rfl) hJ 92 92 (by rfl) (by rfl) (by have := HJL.out; omega) ?_)
                intro v3 w3 hJ3
                clear hJ
                go_wp2_with (at_builtin; refine app_byte (by rfl) (.tmp 44) (.tmp 48) (by rfl) w w3 _ _ (by rfl) hJ3 s[j] _ (by rfl) (by rfl) (by have := HJL.out; simp at this ⊢; omega) ?_)
                intro v4 w4 hJ4
                have HO : Hid (OwnB w.heap.size w w4 v4 (pre ls k ++ 34 :: E (s.take (j + 1)))) := by
                  show OwnB _ _ _ _ _
                  rw [HT.out, HX.out]; simpa using hJ4
                clear hJ3 hJ4
                go_wp2
                go_roundw
                case rel => exact ⟨j + 1, by omega, by go_num, HO.out⟩
                case measure => simp [intOf]; omega
            · have h1 : ¬ s[j] = 34 := fun e => hc (.inl e)
              have h2 : ¬ s[j] = 92 := fun e => hc (.inr e)
              have HX : Hid (esc s[j] = [s[j]]) := by show _ = _; unfold esc; rw [if_neg hc]
              have q1 : ((s[j].toNat : Int) == 34) = false := by rw [show ((s[j].toNat : Int) == 34) = (s[j] == 34) from beq_byte s[j] 34 (by omega)]; exact beq_eq_false_iff_ne.2 h1
              have q2 : ((s[j].toNat : Int) == 92) = false := by rw [show ((s[j].toNat : Int) == 92) = (s[j] == 92) from beq_byte s[j] 92 (by omega)]; exact beq_eq_false_iff_ne.2 h2
              clear hc h1 h2
              go_wp2_with (at_builtin; refine app_byte (by rfl) (.tmp 44) (.tmp 48) (by rfl) w wr _ _ (by rfl) hJ s[j] _ (by rfl) (by rfl) (by have := HJL.out; omega) ?_)
              intro v4 w4 hJ4
              have HO : Hid (OwnB w.heap.size w w4 v4 (pre ls k ++ 34 :: E (s.take (j + 1)))) := by
                show OwnB _ _ _ _ _
                rw [HT.out, HX.out]; simpa using hJ4
              clear hJ hJ4
              go_wp2
              go_roundw
              case rel => exact ⟨j + 1, by omega, by go_num, HO.out⟩
              case measure => simp [intOf]; omega
          · have HT : Hid (s.take j = s) := List.take_of_length_le (by omega)
            go_wp2_with (at_builtin; refine app_byte (by rfl) (.tmp 50) (.tmp 51) (by rfl) w wr _ _ (by rfl) hJ 34 34 (by rfl) (by rfl) (by have := HJL.out; omega) ?_)
            intro v3 w3 hJ3
            have HO : Hid (OwnB w.heap.size w w3 v3 (qj (ls.take (k + 1)))) := by
              show OwnB _ _ _ _ _
              rw [HQ.out]; rw [HT.out] at hJ3; simpa using hJ3
            clear hJ hJ3
            go_wp2
            go_roundw
            case rel => exact ⟨k + 1, by omega, by go_num, HO.out⟩
            case measure => simp [intOf]; omega
    · have HE : Hid (ls.take k = ls) := List.take_of_length_le (by have := HH.out; omega)
      have HOW : Hid (OwnB w.heap.size w wr u3 (qj ls)) := by have h := hown; rw [HE.out] at h; exact h
      have hcv := OwnB.conv HOW.out
      clear hown
      go_wp2
      go_ret
      exact ⟨rfl, HOW.out.2⟩

end Go.Proofs.Qxb6603470a
