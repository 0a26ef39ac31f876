import Derived.Test.Qxb6603470aP9
namespace Go.Proofs.Qxb6603470a
open Go.RowKit

structure MRel (w0 : World) (line : ByteArray) (R : List (List UInt8) × UInt8) (k : Nat) (q : UInt8) (f : Bool) (cur : List UInt8) (out : List (List UInt8)) (vo vc : Value) (w : World) : Prop where
  inv : MInv w0 out cur vo vc w
  r : R = run (line.data.toList.drop k) q false f cur out
  fc : f = false → cur = []
  qf : q ≠ 0 → f = true
  qs : q = 0 ∨ q = 34 ∨ q = 39
  lo : out.length ≤ k
  lc : cur.length ≤ k

theorem MRel.start (w0 : World) (line : ByteArray) : MRel w0 line (run line.data.toList 0 false false [] []) 0 0 false [] [] (.slice none 0 0) (.slice none 0 0) w0 :=
  ⟨MInv.start w0, by simp, fun _ => rfl, fun h => absurd rfl h, .inl rfl, Nat.le_refl _, Nat.le_refl _⟩

def MPost (w0 : World) (R : List (List UInt8) × UInt8) (v : Value) (w : World) : Prop :=
  w.ownsRow w0.heap.size 9 1 v R.1.length (strs R.1) ∧ Below w0.heap.size w0 w

theorem MPost.done {w0 w : World} {R : List (List UInt8) × UInt8} {out : List (List UInt8)} {cur : List UInt8} {vo vc : Value} (h : MInv w0 out cur vo vc w) (hR : R = (out, 0)) : MPost w0 R vo w := by
  subst hR; exact ⟨h.o, h.below⟩
theorem MPost.open_ {w0 w : World} {R : List (List UInt8) × UInt8} {out : List (List UInt8)} {cur : List UInt8} {vo vc : Value} {q : UInt8} (h : MInv w0 out cur vo vc w) (hR : R = ([], q)) : MPost w0 R (.slice none 0 0) w := by
  subst hR; exact ⟨World.ownsRow_nil _ _ _ _, h.below⟩

theorem t_field_end {s : ByteArray} {k : Nat} {R : List (List UInt8) × UInt8} {out : List (List UInt8)} {cur : List UInt8} (h : R = run (s.data.toList.drop k) 0 false true cur out) (hk : s.size ≤ k) : R = (out ++ [cur], 0) := by
  rw [h, drop_end hk, run_nil_field]
theorem t_blank_in {s : ByteArray} {k : Nat} {R : List (List UInt8) × UInt8} {out : List (List UInt8)} {cur : List UInt8} (h : R = run (s.data.toList.drop k) 0 false true cur out) (hk : k < s.size) (hb : blank s[k] = true) : R = run (s.data.toList.drop (k + 1)) 0 false false [] (out ++ [cur]) := by
  rw [h, drop_cons hk, run_blank_in hb]

set_option maxHeartbeats 4000000 in
set_option maxRecDepth 100000 in
theorem model_any (line : ByteArray) (hl : line.size ≤ 4194304) (w : World) (R : List (List UInt8) × UInt8) (hR : R = run line.data.toList 0 false false [] []) :
    Calls Try.prog 9 #[.string line] w fun e w' => ∃ v, e = .returned (.tuple #[v, .int .u8 R.2.toNat]) ∧ MPost w R v w' := by
  have HST : Hid (MRel w line R 0 0 false [] [] (.slice none 0 0) (.slice none 0 0) w) := by rw [hR]; exact MRel.start w line
  clear hR
  go_enter Try.func9, Try.ntmps9
  go_wp2
  go_loopw [4, 5, 6, 7, 8] (fun vo vc fv qv i wr => ∃ k q f cur out, k ≤ line.size ∧ i = .int .i64 (k : Nat) ∧ qv = .int .u8 (UInt8.toNat q : Nat) ∧ fv = .bool f ∧ MRel w line R k q f cur out vo vc wr) (fun _ _ _ _ i _ => line.size - (intOf i).toNat)
  case atStart => exact ⟨0, 0, false, [], [], Nat.zero_le _, rfl, rfl, rfl, HST.out⟩
  case round =>
    obtain ⟨k, q, f, cur, out, hk, rfl, rfl, rfl, hM⟩ := hrel
    clear HST
    have hlo := hM.lo
    have hlc := hM.lc
    have hI := hM.inv
    by_cases hlt : k < line.size
    · rcases hM.qs with rfl | rfl | rfl
      · cases hb : blank line[k]
        · have HB : Hid (blank line[k] = false) := hb
          have HR : Hid (R = run (line.data.toList.drop k) 0 false true cur out) := by
            have h := hM.r
            have hc := hM.fc
            cases f
            · rw [hc rfl] at h ⊢; exact t_enter h hlt hb
            · exact h
          clear hM
          by_cases h92 : line[k] = 92
          · have t92 : ((line[k].toNat : Int) == 92) = true := by rw [h92]; rfl
            by_cases hk1 : k + 1 < line.size
            · have HR2 : Hid (R = run (line.data.toList.drop (k + 1 + 1)) 0 false true (cur ++ [line[k + 1]]) out) := t_back2 HR.out hlt h92 hk1
              clear h92 hb
              go_wp2_with (first | (go_at_call 26; refine (isBlank_any _ _ HB.out _).mono ?_; rintro e w' ⟨rfl, rfl⟩) | (at_builtin; refine app_cur (by rfl) (.tmp 69) (.tmp 73) (by rfl) w wr _ _ _ _ (by rfl) hI line[k + 1] _ (by rfl) (by rfl) (by omega) ?_))
              intro v' w' hI'
              have HM : Hid (MRel w line R (k + 1 + 1) 0 true (cur ++ [line[k + 1]]) out u4 v' w') := ⟨hI', HR2.out, fun h => by simp at h, fun h => absurd rfl h, .inl rfl, by omega, by simp; omega⟩
              clear hI hI'
              go_wp2
              go_roundw
              case rel => exact ⟨k + 1 + 1, 0, true, _, out, by omega, by go_num, rfl, rfl, HM.out⟩
              case measure => simp [intOf]; omega
            · have HR2 : Hid (R = run (line.data.toList.drop (k + 1)) 0 false true cur out) := t_back1 HR.out hlt h92 hk1
              have HM : Hid (MRel w line R (k + 1) 0 true cur out u4 u5 wr) := ⟨hI, HR2.out, fun h => by simp at h, fun h => absurd rfl h, .inl rfl, by omega, by omega⟩
              clear h92 hb hI
              go_wp2_with (go_at_call 26; refine (isBlank_any _ _ HB.out _).mono ?_; rintro e w' ⟨rfl, rfl⟩)
              go_roundw
              case rel => exact ⟨k + 1, 0, true, cur, out, by omega, by go_num, rfl, rfl, HM.out⟩
              case measure => simp [intOf]; omega
          · have t92 : ((line[k].toNat : Int) == 92) = false := by rw [show ((line[k].toNat : Int) == 92) = (line[k] == 92) from beq_byte line[k] 92 (by omega)]; exact beq_eq_false_iff_ne.2 h92
            by_cases h34 : line[k] = 34
            · have t34 : ((line[k].toNat : Int) == 34) = true := by rw [h34]; rfl
              have HR2 : Hid (R = run (line.data.toList.drop (k + 1)) line[k] false true cur out) := t_quote HR.out hlt (.inl h34)
              have HM : Hid (MRel w line R (k + 1) line[k] true cur out u4 u5 wr) := ⟨hI, HR2.out, fun h => by simp at h, fun _ => rfl, .inr (.inl h34), by omega, by omega⟩
              clear h92 h34 hb hI
              go_wp2_with (go_at_call 26; refine (isBlank_any _ _ HB.out _).mono ?_; rintro e w' ⟨rfl, rfl⟩)
              go_roundw
              case rel => exact ⟨k + 1, line[k], true, cur, out, by omega, by go_num, rfl, rfl, HM.out⟩
              case measure => simp [intOf]; omega
            · have t34 : ((line[k].toNat : Int) == 34) = false := by rw [show ((line[k].toNat : Int) == 34) = (line[k] == 34) from beq_byte line[k] 34 (by omega)]; exact beq_eq_false_iff_ne.2 h34
              by_cases h39 : line[k] = 39
              · have t39 : ((line[k].toNat : Int) == 39) = true := by rw [h39]; rfl
                have HR2 : Hid (R = run (line.data.toList.drop (k + 1)) line[k] false true cur out) := t_quote HR.out hlt (.inr h39)
                have HM : Hid (MRel w line R (k + 1) line[k] true cur out u4 u5 wr) := ⟨hI, HR2.out, fun h => by simp at h, fun _ => rfl, .inr (.inr h39), by omega, by omega⟩
                clear h92 h34 h39 hb hI
                go_wp2_with (go_at_call 26; refine (isBlank_any _ _ HB.out _).mono ?_; rintro e w' ⟨rfl, rfl⟩)
                go_roundw
                case rel => exact ⟨k + 1, line[k], true, cur, out, by omega, by go_num, rfl, rfl, HM.out⟩
                case measure => simp [intOf]; omega
              · have t39 : ((line[k].toNat : Int) == 39) = false := by rw [show ((line[k].toNat : Int) == 39) = (line[k] == 39) from beq_byte line[k] 39 (by omega)]; exact beq_eq_false_iff_ne.2 h39
                have hqn : quoting line[k] = false := by unfold quoting; simp [h92, h34, h39]
                have HR2 : Hid (R = run (line.data.toList.drop (k + 1)) 0 false true (cur ++ [line[k]]) out) := t_plain HR.out hlt hb hqn
                clear h92 h34 h39 hb hqn
                go_wp2_with (first | (go_at_call 26; refine (isBlank_any _ _ HB.out _).mono ?_; rintro e w' ⟨rfl, rfl⟩) | (at_builtin; refine app_cur (by rfl) (.tmp 82) (.tmp 84) (by rfl) w wr _ _ _ _ (by rfl) hI line[k] _ (by rfl) (by rfl) (by omega) ?_))
                intro v' w' hI'
                have HM : Hid (MRel w line R (k + 1) 0 true (cur ++ [line[k]]) out u4 v' w') := ⟨hI', HR2.out, fun h => by simp at h, fun h => absurd rfl h, .inl rfl, by omega, by simp; omega⟩
                clear hI hI'
                go_wp2
                go_roundw
                case rel => exact ⟨k + 1, 0, true, _, out, by omega, by go_num, rfl, rfl, HM.out⟩
                case measure => simp [intOf]; omega
        · have HB : Hid (blank line[k] = true) := hb
          cases f
          · have hc0 := hM.fc rfl
            subst hc0
            have HM : Hid (MRel w line R (k + 1) 0 false [] out u4 u5 wr) := ⟨hI, t_blank hM.r hlt hb, fun _ => rfl, fun h => absurd rfl h, .inl rfl, by omega, by simp⟩
            clear hM hb hI
            go_wp2_with (go_at_call 26; refine (isBlank_any _ _ HB.out _).mono ?_; rintro e w' ⟨rfl, rfl⟩)
            go_roundw
            case rel => exact ⟨k + 1, 0, false, [], out, by omega, by go_num, rfl, rfl, HM.out⟩
            case measure => simp [intOf]; omega
          · have HR2 : Hid (R = run (line.data.toList.drop (k + 1)) 0 false false [] (out ++ [cur])) := t_blank_in hM.r hlt hb
            have hcv := hI.conv
            clear hM hb
            rcases hI.form with ⟨hv, hc0⟩ | ⟨g, cap, hv, hcap, hcm⟩
            · subst hv hc0
              go_wp2_with (first | (go_at_call 26; refine (isBlank_any _ _ HB.out _).mono ?_; rintro e w' ⟨rfl, rfl⟩) | (at_builtin; refine app_out (by rfl) (.tmp 53) (.tmp 56) (by rfl) w wr _ _ _ _ (by rfl) hI [] (by rfl) (by omega) ?_))
              intro v' w' hI'
              have HM : Hid (MRel w line R (k + 1) 0 false [] (out ++ [[]]) v' (.slice none 0 0) w') := ⟨hI', HR2.out, fun _ => rfl, fun h => absurd rfl h, .inl rfl, by simp; omega, by simp⟩
              clear hI hI' hcv
              go_wp2
              go_roundw
              case rel => exact ⟨k + 1, 0, false, [], _, by omega, by go_num, rfl, rfl, HM.out⟩
              case measure => simp [intOf]; omega
            · subst hv
              unfold maxLen at hcm
              go_wp2_with (first | (go_at_call 26; refine (isBlank_any _ _ HB.out _).mono ?_; rintro e w' ⟨rfl, rfl⟩) | (at_builtin; refine app_out (by rfl) (.tmp 53) (.tmp 56) (by rfl) w wr _ _ _ _ (by rfl) hI cur (by rfl) (by omega) ?_))
              intro v' w' hI'
              have HM : Hid (MRel w line R (k + 1) 0 false [] (out ++ [cur]) v' (.slice (some ⟨g, 0, none⟩) 0 cap) w') := ⟨hI'.cut, HR2.out, fun _ => rfl, fun h => absurd rfl h, .inl rfl, by simp; omega, by simp⟩
              clear hI hI' hcv
              go_wp2
              go_roundw
              case rel => exact ⟨k + 1, 0, false, [], _, by omega, by go_num, rfl, rfl, HM.out⟩
              case measure => simp [intOf]; omega
      · have hf := hM.qf (by decide)
        subst hf
        have HR : Hid (R = run (line.data.toList.drop k) 34 false true cur out) := hM.r
        clear hM
        by_cases hcq : line[k] = 34
        · have tq : ((line[k].toNat : Int) == 34) = true := by rw [hcq]; rfl
          have HM : Hid (MRel w line R (k + 1) 0 true cur out u4 u5 wr) := ⟨hI, t_close HR.out (by decide) hlt hcq, fun h => by simp at h, fun h => absurd rfl h, .inl rfl, by omega, by omega⟩
          clear hcq hI
          go_wp2_with fail
          go_roundw
          case rel => exact ⟨k + 1, 0, true, cur, out, by omega, by go_num, rfl, rfl, HM.out⟩
          case measure => simp [intOf]; omega
        · have tq : ((line[k].toNat : Int) == 34) = false := by rw [show ((line[k].toNat : Int) == 34) = (line[k] == 34) from beq_byte line[k] 34 (by omega)]; exact beq_eq_false_iff_ne.2 hcq
          by_cases h92 : line[k] = 92
          · have t92 : ((line[k].toNat : Int) == 92) = true := by rw [h92]; rfl
            by_cases hk1 : k + 1 < line.size
            · have HR2 : Hid (R = run (line.data.toList.drop (k + 1 + 1)) 34 false true (cur ++ (if (34 : UInt8) = 39 then [92, line[k + 1]] else [line[k + 1]])) out) := t_in_back2 HR.out (by decide) (by decide) hlt h92 hk1
              clear hcq h92
              go_wp2_with (at_builtin; refine app_cur (by rfl) (.tmp 40) (.tmp 44) (by rfl) w wr _ _ _ _ (by rfl) hI line[k + 1] _ (by rfl) (by rfl) (by omega) ?_)
              intro v' w' hI'
              have HM : Hid (MRel w line R (k + 1 + 1) 34 true (cur ++ [line[k + 1]]) out u4 v' w') := ⟨hI', HR2.out, fun h => by simp at h, fun _ => rfl, .inr (.inl rfl), by omega, by simp; omega⟩
              clear hI hI'
              go_wp2
              go_roundw
              case rel => exact ⟨k + 1 + 1, 34, true, _, out, by omega, by go_num, rfl, rfl, HM.out⟩
              case measure => simp [intOf]; omega
            · have HR2 : Hid (R = run (line.data.toList.drop (k + 1)) 34 false true (cur ++ [line[k]]) out) := t_in_back1 HR.out (by decide) (by decide) hlt h92 hk1
              clear hcq h92
              go_wp2_with (at_builtin; refine app_cur (by rfl) (.tmp 46) (.tmp 48) (by rfl) w wr _ _ _ _ (by rfl) hI line[k] _ (by rfl) (by rfl) (by omega) ?_)
              intro v' w' hI'
              have HM : Hid (MRel w line R (k + 1) 34 true (cur ++ [line[k]]) out u4 v' w') := ⟨hI', HR2.out, fun h => by simp at h, fun _ => rfl, .inr (.inl rfl), by omega, by simp; omega⟩
              clear hI hI'
              go_wp2
              go_roundw
              case rel => exact ⟨k + 1, 34, true, _, out, by omega, by go_num, rfl, rfl, HM.out⟩
              case measure => simp [intOf]; omega
          · have t92 : ((line[k].toNat : Int) == 92) = false := by rw [show ((line[k].toNat : Int) == 92) = (line[k] == 92) from beq_byte line[k] 92 (by omega)]; exact beq_eq_false_iff_ne.2 h92
            have HR2 : Hid (R = run (line.data.toList.drop (k + 1)) 34 false true (cur ++ [line[k]]) out) := t_in_plain HR.out (by decide) hlt hcq h92
            clear hcq h92
            go_wp2_with (at_builtin; refine app_cur (by rfl) (.tmp 46) (.tmp 48) (by rfl) w wr _ _ _ _ (by rfl) hI line[k] _ (by rfl) (by rfl) (by omega) ?_)
            intro v' w' hI'
            have HM : Hid (MRel w line R (k + 1) 34 true (cur ++ [line[k]]) out u4 v' w') := ⟨hI', HR2.out, fun h => by simp at h, fun _ => rfl, .inr (.inl rfl), by omega, by simp; omega⟩
            clear hI hI'
            go_wp2
            go_roundw
            case rel => exact ⟨k + 1, 34, true, _, out, by omega, by go_num, rfl, rfl, HM.out⟩
            case measure => simp [intOf]; omega
      · have hf := hM.qf (by decide)
        subst hf
        have HR : Hid (R = run (line.data.toList.drop k) 39 false true cur out) := hM.r
        clear hM
        by_cases hcq : line[k] = 39
        · have tq : ((line[k].toNat : Int) == 39) = true := by rw [hcq]; rfl
          have HM : Hid (MRel w line R (k + 1) 0 true cur out u4 u5 wr) := ⟨hI, t_close HR.out (by decide) hlt hcq, fun h => by simp at h, fun h => absurd rfl h, .inl rfl, by omega, by omega⟩
          clear hcq hI
          go_wp2_with fail
          go_roundw
          case rel => exact ⟨k + 1, 0, true, cur, out, by omega, by go_num, rfl, rfl, HM.out⟩
          case measure => simp [intOf]; omega
        · have tq : ((line[k].toNat : Int) == 39) = false := by rw [show ((line[k].toNat : Int) == 39) = (line[k] == 39) from beq_byte line[k] 39 (by omega)]; exact beq_eq_false_iff_ne.2 hcq
          by_cases h92 : line[k] = 92
          · have t92 : ((line[k].toNat : Int) == 92) = true := by rw [h92]; rfl
            by_cases hk1 : k + 1 < line.size
            · have HR2 : Hid (R = run (line.data.toList.drop (k + 1 + 1)) 39 false true (cur ++ (if (39 : UInt8) = 39 then [92, line[k + 1]] else [line[k + 1]])) out) := t_in_back2 HR.out (by decide) (by decide) hlt h92 hk1
              clear hcq h92
              go_wp2_with (at_builtin; refine app_cur (by rfl) (.tmp 35) (.tmp 36) (by rfl) w wr _ _ _ _ (by rfl) hI 92 92 (by rfl) (by rfl) (by omega) ?_)
              intro v1 w1 hI1
              clear hI
              go_wp2_with (at_builtin; refine app_cur (by rfl) (.tmp 40) (.tmp 44) (by rfl) w w1 _ _ _ _ (by rfl) hI1 line[k + 1] _ (by rfl) (by rfl) (by simp; omega) ?_)
              intro v' w' hI'
              have HM : Hid (MRel w line R (k + 1 + 1) 39 true (cur ++ [92, line[k + 1]]) out u4 v' w') := ⟨by simpa using hI', HR2.out, fun h => by simp at h, fun _ => rfl, .inr (.inr rfl), by omega, by simp; omega⟩
              clear hI1 hI'
              go_wp2
              go_roundw
              case rel => exact ⟨k + 1 + 1, 39, true, _, out, by omega, by go_num, rfl, rfl, HM.out⟩
              case measure => simp [intOf]; omega
            · have HR2 : Hid (R = run (line.data.toList.drop (k + 1)) 39 false true (cur ++ [line[k]]) out) := t_in_back1 HR.out (by decide) (by decide) hlt h92 hk1
              clear hcq h92
              go_wp2_with (at_builtin; refine app_cur (by rfl) (.tmp 46) (.tmp 48) (by rfl) w wr _ _ _ _ (by rfl) hI line[k] _ (by rfl) (by rfl) (by omega) ?_)
              intro v' w' hI'
              have HM : Hid (MRel w line R (k + 1) 39 true (cur ++ [line[k]]) out u4 v' w') := ⟨hI', HR2.out, fun h => by simp at h, fun _ => rfl, .inr (.inr rfl), by omega, by simp; omega⟩
              clear hI hI'
              go_wp2
              go_roundw
              case rel => exact ⟨k + 1, 39, true, _, out, by omega, by go_num, rfl, rfl, HM.out⟩
              case measure => simp [intOf]; omega
          · have t92 : ((line[k].toNat : Int) == 92) = false := by rw [show ((line[k].toNat : Int) == 92) = (line[k] == 92) from beq_byte line[k] 92 (by omega)]; exact beq_eq_false_iff_ne.2 h92
            have HR2 : Hid (R = run (line.data.toList.drop (k + 1)) 39 false true (cur ++ [line[k]]) out) := t_in_plain HR.out (by decide) hlt hcq h92
            clear hcq h92
            go_wp2_with (at_builtin; refine app_cur (by rfl) (.tmp 46) (.tmp 48) (by rfl) w wr _ _ _ _ (by rfl) hI line[k] _ (by rfl) (by rfl) (by omega) ?_)
            intro v' w' hI'
            have HM : Hid (MRel w line R (k + 1) 39 true (cur ++ [line[k]]) out u4 v' w') := ⟨hI', HR2.out, fun h => by simp at h, fun _ => rfl, .inr (.inr rfl), by omega, by simp; omega⟩
            clear hI hI'
            go_wp2
            go_roundw
            case rel => exact ⟨k + 1, 39, true, _, out, by omega, by go_num, rfl, rfl, HM.out⟩
            case measure => simp [intOf]; omega
    · rcases hM.qs with rfl | rfl | rfl
      · cases f
        · have hRd : Hid (R = (out, 0)) := by
            have h := hM.r
            rw [hM.fc rfl] at h
            exact t_done h (by omega)
          have HP : Hid (MPost w R u4 wr) := MPost.done hI hRd.out
          clear hM hI
          go_wp2
          go_ret2
          exact ⟨u4, by rw [hRd.out]; rfl, HP.out⟩
        · have hRd : Hid (R = (out ++ [cur], 0)) := t_field_end hM.r (by omega)
          have hcv := hI.conv
          clear hM
          go_wp2_with (at_builtin; refine app_out (by rfl) (.tmp 90) (.tmp 93) (by rfl) w wr _ _ _ _ (by rfl) hI cur (by rfl) (by omega) ?_)
          intro v' w' hI'
          have HP : Hid (MPost w R v' w') := MPost.done hI' hRd.out
          clear hI hI' hcv
          go_wp2
          go_ret2
          exact ⟨v', by rw [hRd.out]; rfl, HP.out⟩
      all_goals
        have hf := hM.qf (by decide)
        subst hf
        have hRo := t_open hM.r (by decide) (show line.size ≤ k by omega)
        have HP : Hid (MPost w R (.slice none 0 0) wr) := MPost.open_ hI hRo
        have HRo : Hid (R = _) := hRo
        clear hM hI hRo
        go_wp2
        go_ret2
        exact ⟨.slice none 0 0, by rw [HRo.out]; rfl, HP.out⟩

end Go.Proofs.Qxb6603470a
