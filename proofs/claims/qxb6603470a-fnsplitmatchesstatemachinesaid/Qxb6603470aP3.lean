import Derived.Test.Qxb6603470aP2
namespace Go.Proofs.Qxb6603470a
open Go.RowKit

def Post (w0 : World) (base : Nat) (v0 : Value) (f0 : List (List UInt8)) (R : List (List UInt8) × UInt8) (v : Value) (w : World) : Prop :=
  w0.grownBy w v0.ownBlock ∧ (R.2 ≠ 0 → v = .slice none 0 0) ∧
    (R.2 = 0 → w.ownsRow base 9 1 v (f0 ++ R.1).length (strs (f0 ++ R.1)) ∧ (v = .slice none 0 0 ↔ v0 = .slice none 0 0 ∧ R.1 = []) ∧ (v.ownBlock = v0.ownBlock ∨ ∀ k, v.ownBlock = some k → w0.heap.size ≤ k))

theorem Post.done {w0 : World} {base : Nat} {v0 : Value} {f0 out : List (List UInt8)} {v : Value} {w : World} {R : List (List UInt8) × UInt8} (h : Fld w0 base v0 f0 out v w) (hR : R = (out, 0)) : Post w0 base v0 f0 R v w := by
  subst hR
  exact ⟨h.grow, fun e => absurd rfl e, fun _ => ⟨h.own, h.isnil, h.lies⟩⟩

theorem Post.open_ {w0 : World} {base : Nat} {v0 : Value} {f0 out : List (List UInt8)} {v : Value} {w : World} {R : List (List UInt8) × UInt8} {q : UInt8} (h : Fld w0 base v0 f0 out v w) (hR : R = ([], q)) (hq : q ≠ 0) : Post w0 base v0 f0 R (.slice none 0 0) w := by
  subst hR
  exact ⟨h.grow, fun _ => rfl, fun e => absurd e hq⟩

theorem extract_sub (s : ByteArray) (a b : Nat) : s.extract a b = ⟨(sub s a b).toArray⟩ := by
  have h := Lib.extract_data s a b
  rw [← List.drop_take] at h
  have e : (s.extract a b).data = (sub s a b).toArray := by
    unfold sub; rw [← h]
  exact ByteArray.ext e

theorem Outer.put {w0 : World} {base : Nat} {v0 : Value} {f0 out : List (List UInt8)} {line : ByteArray} {R : List (List UInt8) × UInt8} {v v' : Value} {w w' : World} {cur : List UInt8} {k j : Nat}
    (hf0 : Fld w0 base v0 f0 out v w) (hblk : ∃ p q, w.heap[w0.heap.size]? = some (.cells #[p, q] 77 (0, 0)))
    (hf : Fld w0 base v0 f0 (out ++ [cur]) v' w') (hg : w.grownBy w' v.ownBlock) (hr : R = run (line.data.toList.drop j) 0 false true cur out)
    (he : line.size ≤ j ∨ ∃ hk : j < line.size, blank line[j] = true) (hlen : out.length ≤ k) (hkj : k < j) : Outer w0 base v0 f0 line R v' j (out ++ [cur]) w' := by
  obtain ⟨p, q, hb⟩ := hblk
  exact ⟨hf, ⟨p, q, blk_grown hf0 hb hg⟩, t_field hr he, by simp; omega⟩

set_option maxHeartbeats 4000000 in
set_option maxRecDepth 100000 in
theorem split_any (line : ByteArray) (hl : line.size ≤ 4194304) (base : Nat) (v0 : Value) (f0 : List (List UInt8)) (hn : f0.length ≤ 4194304) (w : World)
    (hown : w.ownsRow base 9 1 v0 f0.length (strs f0)) (hbase : base ≤ w.heap.size) (R : List (List UInt8) × UInt8) (hR : R = run line.data.toList 0 false false [] []) :
    Calls Try.prog 27 #[v0, .string line] w fun e w' => ∃ v, e = .returned (.tuple #[v, .int .u8 R.2.toNat]) ∧ Post w base v0 f0 R v w' := by
  have hst := Outer.start (line := line) hown
  rw [← hR] at hst
  clear hown hR
  have HST : Hid (Outer w base v0 f0 line R v0 0 [] (w.alloc (.cells #[.pointer none, .slice none 0 0] 77))) := hst
  clear hst
  go_enter Try.func27, Try.ntmps27
  go_wp2
  go_loopw [0, 7] (fun v i wr => ∃ k out, k ≤ line.size ∧ i = .int .i64 (k : Nat) ∧ Outer w base v0 f0 line R v k out wr) (fun _ i _ => line.size - (intOf i).toNat)
  case atStart => exact ⟨0, [], Nat.zero_le _, rfl, HST.out⟩
  case round =>
    obtain ⟨k, out, hk, rfl, ho⟩ := hrel
    clear HST
    by_cases hlt : k < line.size
    · cases hb : blank line[k]
      · have HB : Hid (blank line[k] = false) := hb
        have HRe : Hid (R = run (line.data.toList.drop k) 0 false true [] out) := t_enter ho.r hlt hb
        have HF : Hid (Fld w base v0 f0 out u0 wr) := ho.fld
        have HBK : Hid (∃ p q, wr.heap[w.heap.size]? = some (.cells #[p, q] 77 (0, 0))) := ho.blk
        have HLn : out.length ≤ k := ho.len
        clear ho hb
        go_wp2_with (go_at_call 41; refine (isSpace_any _ _ HB.out _).mono ?_; rintro e w' ⟨rfl, rfl⟩)
        go_loop [7] (fun i => ∃ j, k ≤ j ∧ j ≤ line.size ∧ i = .int .i64 (j : Nat) ∧ R = run (line.data.toList.drop j) 0 false true (sub line k j) out) (fun i => line.size - (intOf i).toNat)
        case atStart => exact ⟨k, Nat.le_refl _, by omega, rfl, by rw [sub_self]; exact HRe.out⟩
        case round =>
          obtain ⟨j, hkj, hj, rfl, hr0⟩ := hrel
          have HR : Hid (R = run (line.data.toList.drop j) 0 false true (sub line k j) out) := hr0
          clear hr0 HRe
          by_cases hlj : j < line.size
          · cases hbj : blank line[j]
            · cases hqj : quoting line[j]
              · have HBJ : Hid (blank line[j] = false) := hbj
                have HQJ : Hid (quoting line[j] = false) := hqj
                have HR2 : Hid (R = run (line.data.toList.drop (j + 1)) 0 false true (sub line k (j + 1)) out) := by
                  show _ = _
                  rw [sub_snoc hkj hlj]; exact t_plain HR.out hlj hbj hqj
                clear hbj hqj
                go_wp2_with (first | (go_at_call 41; refine (isSpace_any _ _ HBJ.out _).mono ?_; rintro e w' ⟨rfl, rfl⟩) | (go_at_call 42; refine (isQuoting_any _ _ HQJ.out _).mono ?_; rintro e w' ⟨rfl, rfl⟩))
                go_round
                case rel => exact ⟨j + 1, by omega, by omega, by go_num, HR2.out⟩
                case measure => simp [intOf]; omega
              · have HBJ : Hid (blank line[j] = false) := hbj
                have HQJ : Hid (quoting line[j] = true) := hqj
                have te : ((j : Int) == (line.size : Int)) = false := beq_eq_false_iff_ne.2 (by omega)
                clear hbj hqj
                go_wp2_with (first | (go_at_call 41; refine (isSpace_any _ _ HBJ.out _).mono ?_; rintro e w' ⟨rfl, rfl⟩) | (go_at_call 42; refine (isQuoting_any _ _ HQJ.out _).mono ?_; rintro e w' ⟨rfl, rfl⟩))
                obtain ⟨p, q, hblk⟩ := HBK.out
                refine (reset_any w.heap.size p q wr hblk).mono ?_
                rintro e w1 ⟨rfl, hw1⟩
                have hI1 : SInv w base v0 f0 out u0 [] w1 := by rw [hw1]; exact SInv.reset HF.out hblk
                clear hw1 hblk HF HBK
                have hes : (line.extract k j).data.toList = sub line k j := by rw [extract_sub]
                have hsz : (line.extract k j).size ≤ j := by
                  have e2 : (line.extract k j).size = (line.extract k j).data.toList.length := by rw [Array.length_toList]; rfl
                  rw [e2, hes]; exact sub_len _ _ _
                have HES : Hid ((line.extract k j).data.toList = sub line k j) := hes
                clear hes
                have HC : Hid ((Lib.byteCells []).length + (line.extract k j).size ≤ 140737488355328) := by
                  show _ ≤ _
                  rw [Lib.byteCells_length]; simp only [List.length_nil]; omega
                go_wp2_with fail
                refine (Try.Builder_WriteString_k w.heap.size w.heap.size (Lib.byteCells []) (line.extract k j) w1 hI1.bld HC.out hI1.le).mono ?_
                rintro e w2 ⟨rfl, hb2, hbel2, hk2⟩
                have hI2 : SInv w base v0 f0 out u0 (sub line k j) w2 := by rw [← HES.out]; exact hI1.wroteS _ hb2 hbel2 hk2
                clear hb2 hbel2 hk2 hI1 hsz HES HC
                go_wp2
                go_loopw [7] (fun i wr => ∃ m cur, k ≤ m ∧ m ≤ line.size ∧ i = .int .i64 (m : Nat) ∧ SInv w base v0 f0 out u0 cur wr ∧ R = run (line.data.toList.drop m) 0 false true cur out ∧ cur.length ≤ m) (fun i _ => line.size - (intOf i).toNat)
                case atStart => exact ⟨j, sub line k j, hkj, hj, rfl, hI2, HR.out, sub_len _ _ _⟩
                case round =>
                  obtain ⟨m, cur, hkm, hm, rfl, hI, hr0, hcl⟩ := hrel
                  clear HR hI2 HBJ HQJ te
                  have HR : Hid (R = run (line.data.toList.drop m) 0 false true cur out) := hr0
                  clear hr0
                  by_cases hlm : m < line.size
                  · cases hbm : blank line[m]
                    · have HBM : Hid (blank line[m] = false) := hbm
                      have HLC : Hid ((Lib.byteCells cur).length + 1 ≤ 140737488355328) := by
                        show _ ≤ _
                        rw [Lib.byteCells_length]; omega
                      by_cases h92 : line[m] = 92
                      · have t92 : ((line[m].toNat : Int) == 92) = true := by rw [h92]; rfl
                        by_cases hm1 : m + 1 < line.size
                        · have HR2 : Hid (R = run (line.data.toList.drop (m + 1 + 1)) 0 false true (cur ++ [line[m + 1]]) out) := t_back2 HR.out hlm h92 hm1
                          clear h92 hbm
                          go_wp2_with (go_at_call 41; refine (isSpace_any _ _ HBM.out _).mono ?_; rintro e w' ⟨rfl, rfl⟩)
                          refine (Try.Builder_WriteByte_k w.heap.size w.heap.size (Lib.byteCells cur) _ wr hI.bld HLC.out hI.le).mono ?_
                          rintro e w3 ⟨rfl, hb3, hbel3, hk3⟩
                          have hI3 : SInv w base v0 f0 out u0 (cur ++ [line[m + 1]]) w3 := hI.wrote _ hb3 hbel3 hk3
                          clear hb3 hbel3 hk3 hI
                          go_wp2
                          go_roundw
                          case rel => exact ⟨m + 1 + 1, _, by omega, by omega, by go_num, hI3, HR2.out, by simp; omega⟩
                          case measure => simp [intOf]; omega
                        · have HR2 : Hid (R = run (line.data.toList.drop (m + 1)) 0 false true cur out) := t_back1 HR.out hlm h92 hm1
                          clear h92 hbm
                          go_wp2_with (go_at_call 41; refine (isSpace_any _ _ HBM.out _).mono ?_; rintro e w' ⟨rfl, rfl⟩)
                          go_roundw
                          case rel => exact ⟨m + 1, cur, by omega, by omega, by go_num, hI, HR2.out, by omega⟩
                          case measure => simp [intOf]; omega
                      · have t92 : ((line[m].toNat : Int) == 92) = false := by rw [show ((line[m].toNat : Int) == 92) = (line[m] == 92) from beq_byte line[m] 92 (by omega)]; exact beq_eq_false_iff_ne.2 h92
                        by_cases h34 : line[m] = 34
                        · have t34 : ((line[m].toNat : Int) == 34) = true := by rw [h34]; rfl
                          have t39 : ((line[m].toNat : Int) == 39) = false := by rw [h34]; rfl
                          have HR2 : Hid (R = run (line.data.toList.drop (m + 1)) 34 false true cur out) := by
                            show _ = _
                            rw [← h34]; exact t_quote HR.out hlm (.inl h34)
                          have HQ : Hid (line[m] = 34) := h34
                          clear h92 h34 hbm HR HLC
                          go_wp2_with (go_at_call 41; refine (isSpace_any _ _ HBM.out _).mono ?_; rintro e w' ⟨rfl, rfl⟩)
                          go_loopw [7] (fun i wr => ∃ n cur, m + 1 ≤ n ∧ n ≤ line.size ∧ i = .int .i64 (n : Nat) ∧ SInv w base v0 f0 out u0 cur wr ∧ R = run (line.data.toList.drop n) 34 false true cur out ∧ cur.length ≤ n) (fun i _ => line.size - (intOf i).toNat)
                          case atStart => exact ⟨m + 1, cur, Nat.le_refl _, by omega, by go_num, hI, HR2.out, by omega⟩
                          case round =>
                            obtain ⟨n, cur2, hmn, hn2, rfl, hJ, hr0, hcl2⟩ := hrel
                            clear HR2 hI
                            have HR : Hid (R = run (line.data.toList.drop n) 34 false true cur2 out) := hr0
                            clear hr0
                            have HLC : Hid ((Lib.byteCells cur2).length + 1 ≤ 140737488355328) := by
                              show _ ≤ _
                              rw [Lib.byteCells_length]; omega
                            by_cases hln : n < line.size
                            · by_cases hcn : line[n] = 34
                              · have tn : ((line[n].toNat : Int) != (line[m].toNat : Int)) = false := by rw [hcn, HQ.out]; rfl
                                have te : ((n : Int) == (line.size : Int)) = false := beq_eq_false_iff_ne.2 (by omega)
                                have HR3 : Hid (R = run (line.data.toList.drop (n + 1)) 0 false true cur2 out) := t_close HR.out (by decide) hln hcn
                                clear hcn
                                go_wp2
                                go_roundw
                                case rel => exact ⟨n + 1, cur2, by omega, by omega, by go_num, hJ, HR3.out, by omega⟩
                                case measure => simp [intOf]; omega
                              · have tn : ((line[n].toNat : Int) != (line[m].toNat : Int)) = true := by
                                  rw [HQ.out, bne, show ((line[n].toNat : Int) == ((34 : UInt8).toNat : Int)) = (line[n] == 34) from beq_byte line[n] 34 (by omega), beq_eq_false_iff_ne.2 hcn]; rfl
                                by_cases h92 : line[n] = 92
                                · have t92 : ((line[n].toNat : Int) == 92) = true := by rw [h92]; rfl
                                  by_cases hn1 : n + 1 < line.size
                                  · have HR3 : Hid (R = run (line.data.toList.drop (n + 1 + 1)) 34 false true (cur2 ++ (if (34 : UInt8) = 39 then [92, line[n + 1]] else [line[n + 1]])) out) := t_in_back2 HR.out (by decide) (by decide) hln h92 hn1
                                    clear hcn h92
                                    go_wp2_with fail
                                    refine (Try.Builder_WriteByte_k w.heap.size w.heap.size (Lib.byteCells cur2) _ wr hJ.bld HLC.out hJ.le).mono ?_
                                    rintro e w3 ⟨rfl, hb3, hbel3, hk3⟩
                                    have hJ3 : SInv w base v0 f0 out u0 (cur2 ++ [line[n + 1]]) w3 := hJ.wrote _ hb3 hbel3 hk3
                                    clear hb3 hbel3 hk3 hJ
                                    go_wp2
                                    go_roundw
                                    case rel => exact ⟨n + 1 + 1, _, by omega, by omega, by go_num, hJ3, HR3.out, by simp; omega⟩
                                    case measure => simp [intOf]; omega
                                  · have HR3 : Hid (R = run (line.data.toList.drop (n + 1)) 34 false true (cur2 ++ [line[n]]) out) := t_in_back1 HR.out (by decide) (by decide) hln h92 hn1
                                    clear hcn h92
                                    go_wp2_with fail
                                    refine (Try.Builder_WriteByte_k w.heap.size w.heap.size (Lib.byteCells cur2) _ wr hJ.bld HLC.out hJ.le).mono ?_
                                    rintro e w3 ⟨rfl, hb3, hbel3, hk3⟩
                                    have hJ3 : SInv w base v0 f0 out u0 (cur2 ++ [line[n]]) w3 := hJ.wrote _ hb3 hbel3 hk3
                                    clear hb3 hbel3 hk3 hJ
                                    go_wp2
                                    go_roundw
                                    case rel => exact ⟨n + 1, _, by omega, by omega, by go_num, hJ3, HR3.out, by simp; omega⟩
                                    case measure => simp [intOf]; omega
                                · have t92 : ((line[n].toNat : Int) == 92) = false := by rw [show ((line[n].toNat : Int) == 92) = (line[n] == 92) from beq_byte line[n] 92 (by omega)]; exact beq_eq_false_iff_ne.2 h92
                                  have HR3 : Hid (R = run (line.data.toList.drop (n + 1)) 34 false true (cur2 ++ [line[n]]) out) := t_in_plain HR.out (by decide) hln hcn h92
                                  clear hcn h92
                                  go_wp2_with fail
                                  refine (Try.Builder_WriteByte_k w.heap.size w.heap.size (Lib.byteCells cur2) _ wr hJ.bld HLC.out hJ.le).mono ?_
                                  rintro e w3 ⟨rfl, hb3, hbel3, hk3⟩
                                  have hJ3 : SInv w base v0 f0 out u0 (cur2 ++ [line[n]]) w3 := hJ.wrote _ hb3 hbel3 hk3
                                  clear hb3 hbel3 hk3 hJ
                                  go_wp2
                                  go_roundw
                                  case rel => exact ⟨n + 1, _, by omega, by omega, by go_num, hJ3, HR3.out, by simp; omega⟩
                                  case measure => simp [intOf]; omega
                            · have te : ((n : Int) == (line.size : Int)) = true := beq_iff_eq.2 (by omega)
                              have hRo : Hid (R = ([], 34)) := t_open HR.out (by decide) (by omega)
                              have HP : Hid (Post w base v0 f0 R (.slice none 0 0) wr) := Post.open_ hJ.fld hRo.out (by decide)
                              clear hJ
                              go_wp2
                              go_ret2
                              exact ⟨.slice none 0 0, by rw [hRo.out, ← HQ.out]; rfl, HP.out⟩
                        · by_cases h39 : line[m] = 39
                          · have t34 : ((line[m].toNat : Int) == 34) = false := by rw [h39]; rfl
                            have t39 : ((line[m].toNat : Int) == 39) = true := by rw [h39]; rfl
                            have HR2 : Hid (R = run (line.data.toList.drop (m + 1)) 39 false true cur out) := by
                              show _ = _
                              rw [← h39]; exact t_quote HR.out hlm (.inr h39)
                            have HQ : Hid (line[m] = 39) := h39
                            clear h92 h34 h39 hbm HR HLC
                            go_wp2_with (go_at_call 41; refine (isSpace_any _ _ HBM.out _).mono ?_; rintro e w' ⟨rfl, rfl⟩)
                            go_loopw [7] (fun i wr => ∃ n cur, m + 1 ≤ n ∧ n ≤ line.size ∧ i = .int .i64 (n : Nat) ∧ SInv w base v0 f0 out u0 cur wr ∧ R = run (line.data.toList.drop n) 39 false true cur out ∧ cur.length ≤ n) (fun i _ => line.size - (intOf i).toNat)
                            case atStart => exact ⟨m + 1, cur, Nat.le_refl _, by omega, by go_num, hI, HR2.out, by omega⟩
                            case round =>
                              obtain ⟨n, cur2, hmn, hn2, rfl, hJ, hr0, hcl2⟩ := hrel
                              clear HR2 hI
                              have HR : Hid (R = run (line.data.toList.drop n) 39 false true cur2 out) := hr0
                              clear hr0
                              have HLC : Hid ((Lib.byteCells cur2).length + 1 ≤ 140737488355328) := by
                                show _ ≤ _
                                rw [Lib.byteCells_length]; omega
                              by_cases hln : n < line.size
                              · by_cases hcn : line[n] = 39
                                · have tn : ((line[n].toNat : Int) != (line[m].toNat : Int)) = false := by rw [hcn, HQ.out]; rfl
                                  have te : ((n : Int) == (line.size : Int)) = false := beq_eq_false_iff_ne.2 (by omega)
                                  have HR3 : Hid (R = run (line.data.toList.drop (n + 1)) 0 false true cur2 out) := t_close HR.out (by decide) hln hcn
                                  clear hcn
                                  go_wp2
                                  go_roundw
                                  case rel => exact ⟨n + 1, cur2, by omega, by omega, by go_num, hJ, HR3.out, by omega⟩
                                  case measure => simp [intOf]; omega
                                · have tn : ((line[n].toNat : Int) != (line[m].toNat : Int)) = true := by
                                    rw [HQ.out, bne, show ((line[n].toNat : Int) == ((39 : UInt8).toNat : Int)) = (line[n] == 39) from beq_byte line[n] 39 (by omega), beq_eq_false_iff_ne.2 hcn]; rfl
                                  by_cases h92 : line[n] = 92
                                  · have t92 : ((line[n].toNat : Int) == 92) = true := by rw [h92]; rfl
                                    by_cases hn1 : n + 1 < line.size
                                    · have HR3 : Hid (R = run (line.data.toList.drop (n + 1 + 1)) 39 false true (cur2 ++ (if (39 : UInt8) = 39 then [92, line[n + 1]] else [line[n + 1]])) out) := t_in_back2 HR.out (by decide) (by decide) hln h92 hn1
                                      clear hcn h92
                                      go_wp2_with fail
                                      refine (Try.Builder_WriteByte_k w.heap.size w.heap.size (Lib.byteCells cur2) _ wr hJ.bld HLC.out hJ.le).mono ?_
                                      rintro e w3 ⟨rfl, hb3, hbel3, hk3⟩
                                      have hJ3 : SInv w base v0 f0 out u0 (cur2 ++ [92]) w3 := hJ.wrote 92 hb3 hbel3 hk3
                                      clear hb3 hbel3 hk3 hJ
                                      have HLC2 : Hid ((Lib.byteCells (cur2 ++ [92])).length + 1 ≤ 140737488355328) := by
                                        show _ ≤ _
                                        rw [Lib.byteCells_length]; simp; omega
                                      go_wp2_with fail
                                      refine (Try.Builder_WriteByte_k w.heap.size w.heap.size (Lib.byteCells (cur2 ++ [92])) _ w3 hJ3.bld HLC2.out hJ3.le).mono ?_
                                      rintro e w4 ⟨rfl, hb4, hbel4, hk4⟩
                                      have hJ4 : SInv w base v0 f0 out u0 (cur2 ++ [92] ++ [line[n + 1]]) w4 := hJ3.wrote _ hb4 hbel4 hk4
                                      clear hb4 hbel4 hk4 hJ3
                                      go_wp2
                                      go_roundw
                                      case rel => exact ⟨n + 1 + 1, _, by omega, by omega, by go_num, hJ4, by rw [List.append_assoc]; exact HR3.out, by simp; omega⟩
                                      case measure => simp [intOf]; omega
                                    · have HR3 : Hid (R = run (line.data.toList.drop (n + 1)) 39 false true (cur2 ++ [line[n]]) out) := t_in_back1 HR.out (by decide) (by decide) hln h92 hn1
                                      clear hcn h92
                                      go_wp2_with fail
                                      refine (Try.Builder_WriteByte_k w.heap.size w.heap.size (Lib.byteCells cur2) _ wr hJ.bld HLC.out hJ.le).mono ?_
                                      rintro e w3 ⟨rfl, hb3, hbel3, hk3⟩
                                      have hJ3 : SInv w base v0 f0 out u0 (cur2 ++ [line[n]]) w3 := hJ.wrote _ hb3 hbel3 hk3
                                      clear hb3 hbel3 hk3 hJ
                                      go_wp2
                                      go_roundw
                                      case rel => exact ⟨n + 1, _, by omega, by omega, by go_num, hJ3, HR3.out, by simp; omega⟩
                                      case measure => simp [intOf]; omega
                                  · have t92 : ((line[n].toNat : Int) == 92) = false := by rw [show ((line[n].toNat : Int) == 92) = (line[n] == 92) from beq_byte line[n] 92 (by omega)]; exact beq_eq_false_iff_ne.2 h92
                                    have HR3 : Hid (R = run (line.data.toList.drop (n + 1)) 39 false true (cur2 ++ [line[n]]) out) := t_in_plain HR.out (by decide) hln hcn h92
                                    clear hcn h92
                                    go_wp2_with fail
                                    refine (Try.Builder_WriteByte_k w.heap.size w.heap.size (Lib.byteCells cur2) _ wr hJ.bld HLC.out hJ.le).mono ?_
                                    rintro e w3 ⟨rfl, hb3, hbel3, hk3⟩
                                    have hJ3 : SInv w base v0 f0 out u0 (cur2 ++ [line[n]]) w3 := hJ.wrote _ hb3 hbel3 hk3
                                    clear hb3 hbel3 hk3 hJ
                                    go_wp2
                                    go_roundw
                                    case rel => exact ⟨n + 1, _, by omega, by omega, by go_num, hJ3, HR3.out, by simp; omega⟩
                                    case measure => simp [intOf]; omega
                              · have te : ((n : Int) == (line.size : Int)) = true := beq_iff_eq.2 (by omega)
                                have hRo : Hid (R = ([], 39)) := t_open HR.out (by decide) (by omega)
                                have HP : Hid (Post w base v0 f0 R (.slice none 0 0) wr) := Post.open_ hJ.fld hRo.out (by decide)
                                clear hJ
                                go_wp2
                                go_ret2
                                exact ⟨.slice none 0 0, by rw [hRo.out, ← HQ.out]; rfl, HP.out⟩
                          · have t34 : ((line[m].toNat : Int) == 34) = false := by rw [show ((line[m].toNat : Int) == 34) = (line[m] == 34) from beq_byte line[m] 34 (by omega)]; exact beq_eq_false_iff_ne.2 h34
                            have t39 : ((line[m].toNat : Int) == 39) = false := by rw [show ((line[m].toNat : Int) == 39) = (line[m] == 39) from beq_byte line[m] 39 (by omega)]; exact beq_eq_false_iff_ne.2 h39
                            have hq : quoting line[m] = false := by unfold quoting; simp [h92, h34, h39]
                            have HR2 : Hid (R = run (line.data.toList.drop (m + 1)) 0 false true (cur ++ [line[m]]) out) := t_plain HR.out hlm hbm hq
                            clear h92 h34 h39 hbm hq
                            go_wp2_with (go_at_call 41; refine (isSpace_any _ _ HBM.out _).mono ?_; rintro e w' ⟨rfl, rfl⟩)
                            refine (Try.Builder_WriteByte_k w.heap.size w.heap.size (Lib.byteCells cur) _ wr hI.bld HLC.out hI.le).mono ?_
                            rintro e w3 ⟨rfl, hb3, hbel3, hk3⟩
                            have hI3 : SInv w base v0 f0 out u0 (cur ++ [line[m]]) w3 := hI.wrote _ hb3 hbel3 hk3
                            clear hb3 hbel3 hk3 hI
                            go_wp2
                            go_roundw
                            case rel => exact ⟨m + 1, _, by omega, by omega, by go_num, hI3, HR2.out, by simp; omega⟩
                            case measure => simp [intOf]; omega
                    · have HBM : Hid (blank line[m] = true) := hbm
                      have hne : k ≠ m := by
                        intro e; subst e
                        have := HB.out; rw [hbm] at this; exact Bool.noConfusion this
                      clear hbm
                      go_wp2_with (go_at_call 41; refine (isSpace_any _ _ HBM.out _).mono ?_; rintro e w' ⟨rfl, rfl⟩)
                      refine (Try.Builder_String_any_k w.heap.size w.heap.size cur wr hI.bld hI.le).mono ?_
                      rintro e w3 ⟨rfl, hb3, hbel3, hk3⟩
                      have hI3 : SInv w base v0 f0 out u0 cur w3 := hI.string hb3 hbel3 hk3
                      clear hb3 hbel3 hk3 hI
                      go_wp2_with (at_builtin; refine app_str (by rfl) (.tmp 139) (.tmp 141) (by rfl) w w3 base v0 _ f0 out (by rfl) hI3.fld hbase _ cur (by rfl) (by rfl) (by simp; omega) ?_)
                      intro v' w' hf' hg'
                      have HO : Hid (Outer w base v0 f0 line R v' m (out ++ [cur]) w') := Outer.put hI3.fld (Bld.block hI3.bld) hf' hg' HR.out (.inr ⟨hlm, HBM.out⟩) HLn (by omega)
                      clear hf' hg' hI3
                      go_wp2
                      go_roundw
                      case rel => exact ⟨m, _, by omega, rfl, HO.out⟩
                      case measure => simp [intOf]; omega
                  · go_wp2_with fail
                    refine (Try.Builder_String_any_k w.heap.size w.heap.size cur wr hI.bld hI.le).mono ?_
                    rintro e w3 ⟨rfl, hb3, hbel3, hk3⟩
                    have hI3 : SInv w base v0 f0 out u0 cur w3 := hI.string hb3 hbel3 hk3
                    clear hb3 hbel3 hk3 hI
                    go_wp2_with (at_builtin; refine app_str (by rfl) (.tmp 139) (.tmp 141) (by rfl) w w3 base v0 _ f0 out (by rfl) hI3.fld hbase _ cur (by rfl) (by rfl) (by simp; omega) ?_)
                    intro v' w' hf' hg'
                    have HO : Hid (Outer w base v0 f0 line R v' m (out ++ [cur]) w') := Outer.put hI3.fld (Bld.block hI3.bld) hf' hg' HR.out (.inl (by omega)) HLn (by omega)
                    clear hf' hg' hI3
                    go_wp2
                    go_roundw
                    case rel => exact ⟨m, _, by omega, rfl, HO.out⟩
                    case measure => simp [intOf]; omega
            · have HBJ : Hid (blank line[j] = true) := hbj
              have hne : k ≠ j := by
                intro e; subst e
                have := HB.out; rw [hbj] at this; exact Bool.noConfusion this
              have te : ((j : Int) == (line.size : Int)) = false := beq_eq_false_iff_ne.2 (by omega)
              clear hbj
              go_wp2_with (first | (go_at_call 41; refine (isSpace_any _ _ HBJ.out _).mono ?_; rintro e w' ⟨rfl, rfl⟩) | (at_builtin; refine app_str (by rfl) (.tmp 51) (.tmp 56) (by rfl) w wr base v0 _ f0 out (by rfl) HF.out hbase _ (sub line k j) (extract_sub line k j) (by rfl) (by simp; omega) ?_))
              intro v' w' hf' hg'
              have HO : Hid (Outer w base v0 f0 line R v' j (out ++ [sub line k j]) w') := Outer.put HF.out HBK.out hf' hg' HR.out (.inr ⟨hlj, HBJ.out⟩) HLn (by omega)
              clear hf' hg'
              go_wp2
              go_roundw
              case rel => exact ⟨j, _, by omega, rfl, HO.out⟩
              case measure => simp [intOf]; omega
          · have te : ((j : Int) == (line.size : Int)) = true := beq_iff_eq.2 (by omega)
            go_wp2_with (first | (at_builtin; refine app_str (by rfl) (.tmp 51) (.tmp 56) (by rfl) w wr base v0 _ f0 out (by rfl) HF.out hbase _ (sub line k j) (extract_sub line k j) (by rfl) (by simp; omega) ?_))
            intro v' w' hf' hg'
            have HO : Hid (Outer w base v0 f0 line R v' j (out ++ [sub line k j]) w') := Outer.put HF.out HBK.out hf' hg' HR.out (.inl (by omega)) HLn (by omega)
            clear hf' hg'
            go_wp2
            go_roundw
            case rel => exact ⟨j, _, by omega, rfl, HO.out⟩
            case measure => simp [intOf]; omega
      · have HO : Hid (Outer w base v0 f0 line R u0 (k + 1) out wr) := ⟨ho.fld, ho.blk, t_blank ho.r hlt hb, by have := ho.len; omega⟩
        have HB : Hid (blank line[k] = true) := hb
        clear ho hb
        go_wp2_with (go_at_call 41; refine (isSpace_any _ _ HB.out _).mono ?_; rintro e w' ⟨rfl, rfl⟩)
        go_roundw
        case rel => exact ⟨k + 1, out, by omega, by go_num, HO.out⟩
        case measure => simp [intOf]; omega
    · have hRd : Hid (R = (out, 0)) := t_done ho.r (by omega)
      have HP : Hid (Post w base v0 f0 R u0 wr) := Post.done ho.fld hRd.out
      clear ho
      go_wp2
      go_ret2
      exact ⟨u0, by rw [hRd.out]; rfl, HP.out⟩
end Go.Proofs.Qxb6603470a
