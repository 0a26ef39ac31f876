import Derived.Test.Qxb6603470aP11
namespace Go.Proofs.Qxb6603470a
open Go.RowKit

theorem Cells.grown {w w' : World} {g off : Nat} {ls : List (List UInt8)} {row : Option Nat} (h : Cells w g off ls) (hg : w.grownBy w' row) (hlt : g < w.heap.size) (hne : some g ≠ row) : Cells w' g off ls := by
  intro j hj
  rw [World.cell?_of_block (w := w) (hg.block g hlt hne)]; exact h j hj

theorem own_form {w : World} {base n : Nat} {v : Value} {ls : List (List UInt8)} (hn : ls.length = n) (h : w.ownsRow base 9 1 v n (strs ls)) :
    (v = .slice none 0 0 ∧ n = 0) ∨ ∃ g cap, v = .slice (some ⟨g, 0, none⟩) n cap ∧ base ≤ g ∧ g < w.heap.size ∧ Cells w g 0 ls := by
  have h0 := h
  rcases h.2 with h | ⟨g, cap, cur, rfl, hb, hg, _⟩
  · exact .inl h
  · exact .inr ⟨g, cap, rfl, hb, lt_of_heap hg, Cells.of_own hn h0⟩

theorem own_below {w w' : World} {base n B : Nat} {v : Value} {xs : List Value} (h : w.ownsRow base 9 1 v n xs) (hb : Below B w w') (hlt : ∀ k, v.ownBlock = some k → k < B) : w'.ownsRow base 9 1 v n xs := by
  refine ⟨h.1, ?_⟩
  rcases h.2 with e | ⟨g, cap, cur, e1, e2, e3, e4⟩
  · exact .inl e
  · exact .inr ⟨g, cap, cur, e1, e2, (hb.block g (hlt g (by rw [e1]; rfl))).trans e3, e4⟩

theorem own_block {a : Option Addr} {s n c : Nat} (h : a = none ∨ a = some ⟨s, 0, none⟩) : ∀ k, (Value.slice a n c).ownBlock = some k → k = s := by
  intro k hk
  rcases h with rfl | rfl
  · simp [Value.ownBlock] at hk
  · simp [Value.ownBlock] at hk; exact hk.symm

set_option maxHeartbeats 2000000 in
set_option maxRecDepth 100000 in
theorem law3 (a : Option Addr) (len cap : Nat) (ls : List (List UInt8)) (line : ByteArray) (hline : line.size ≤ maxLen) (w : World) (h : IsStrs w a len cap ls) :
    Calls Try.prog 3 #[.slice a len cap, .string line] w fun e w' => e = .returned (.bool true) ∧ Below w.heap.size w w' := by
  have q := eqnil22
  have HS : Hid (IsStrs w a len cap ls) := h
  have HH : Hid (ls.length = len) := h.len
  have D1 : Hid (Calls Try.prog 6 #[.slice a len cap, .string line] w fun e w' => IsBool e ∧ w = w') := zz6_any a len cap ls line hline w h
  clear h
  have hline2 := hline
  unfold maxLen at hline2
  by_cases hbig : 1048576 < line.size
  · go_enter Try.func3, Try.ntmps3
    go_wp2_with fail
    refine D1.out.mono ?_
    rintro e w' ⟨⟨r, rfl⟩, rfl⟩
    cases r
    · go_wp2
      go_ret
      exact ⟨rfl, Below.refl _ _⟩
    · go_wp2
      go_ret
      exact ⟨rfl, Below.refl _ _⟩
  go_enter Try.func3, Try.ntmps3
  go_wp2_with fail
  refine D1.out.mono ?_
  rintro e w' ⟨⟨r, rfl⟩, rfl⟩
  cases r
  · go_wp2
    go_ret
    exact ⟨rfl, Below.refl _ _⟩
  go_wp2_with fail
  refine (addStrings_any line.size (by omega) a len cap ls w HS.out).mono ?_
  rintro e w' ⟨r, rfl, hr, rfl⟩
  have HR : Hid (r ≤ 1048576 → r = line.size + 16 * len + tot ls) := hr
  clear hr D1
  by_cases hbr : 1048576 < r
  · go_wp2
    go_ret
    exact ⟨rfl, Below.refl _ _⟩
  have hsum := HR.out (by omega)
  have hlen : len ≤ 65536 := by omega
  clear hsum HR
  go_wp2_with fail
  refine (clone_any a len cap ls w HS.out (by omega)).mono ?_
  rintro e w1 ⟨a1, rfl, hn1, hat1, ho1, hb1, hS1⟩
  have P1 : Hid ((a1 = none ↔ a = none) ∧ (a1 = none ∨ a1 = some ⟨w.heap.size, 0, none⟩) ∧ w1.ownsRow w.heap.size 9 1 (.slice a1 len len) len (strs ls) ∧ Below w.heap.size w w1 ∧ IsStrs w1 a1 len len ls) := ⟨hn1, hat1, ho1, hb1, hS1⟩
  clear hn1 hat1 ho1 hb1 hS1
  go_wp2_with fail
  refine (clone_any a1 len len ls w1 P1.out.2.2.2.2 (by omega)).mono ?_
  rintro e w2 ⟨a2, rfl, hn2, hat2, ho2, hb2, hS2⟩
  have P2 : Hid ((a2 = none ↔ a1 = none) ∧ (a2 = none ∨ a2 = some ⟨w1.heap.size, 0, none⟩) ∧ w2.ownsRow w1.heap.size 9 1 (.slice a2 len len) len (strs ls) ∧ Below w1.heap.size w1 w2 ∧ IsStrs w2 a2 len len ls) := ⟨hn2, hat2, ho2, hb2, hS2⟩
  clear hn2 hat2 ho2 hb2 hS2
  obtain ⟨ms, qc, hR⟩ : ∃ ms qc, (ms, qc) = run line.data.toList 0 false false [] [] := ⟨_, _, rfl⟩
  have HRun : Hid ((ms, qc) = run line.data.toList 0 false false [] []) := hR
  have hml : ms.length ≤ line.size + 1 := by
    have h := run_len line.data.toList 0 false false [] []
    rw [← hR, Array.length_toList] at h
    simp at h
    exact h
  clear hR
  go_wp2_with fail
  refine (model_any line (by omega) w2 (ms, qc) HRun.out).mono ?_
  rintro e w3 ⟨vm, rfl, hPm⟩
  have PM : Hid (MPost w2 (ms, qc) vm w3) := hPm
  clear hPm
  go_wp2_with fail
  have hk1 : ∀ k, (Value.slice a1 len len).ownBlock = some k → k = w.heap.size ∧ k < w1.heap.size := fun k hk => ⟨own_block P1.out.2.1 k hk, (P1.out.2.2.1.lt k hk).2⟩
  have hsz2 : w1.heap.size ≤ w2.heap.size := P2.out.2.2.2.1.size
  have hsz3 : w2.heap.size ≤ w3.heap.size := PM.out.2.size
  have hsz1 : w.heap.size ≤ w1.heap.size := P1.out.2.2.2.1.size
  have hown3 : w3.ownsRow w.heap.size 9 1 (.slice a1 len len) ls.length (strs ls) := by
    rw [HH.out]
    exact own_below (own_below P1.out.2.2.1 P2.out.2.2.2.1 (fun k hk => (hk1 k hk).2)) PM.out.2 (fun k hk => by have := (hk1 k hk).2; omega)
  have HB3 : Hid (Below w.heap.size w w3) := (P1.out.2.2.2.1.trans (P2.out.2.2.2.1.mono hsz1)).trans (PM.out.2.mono (by omega))
  refine (zzsplit_any line (by omega) w.heap.size (.slice a1 len len) ls (by rw [HH.out]; omega) w3 hown3 (by omega) (ms, qc) HRun.out).mono ?_
  rintro e w4 ⟨v, rfl, hP⟩
  have HB4 : Hid (Below w.heap.size w w4) := HB3.out.grown hP.1 (by omega) (fun k hk => by rw [(hk1 k hk).1]; exact Nat.le_refl _)
  have PP : Hid (Post w3 w.heap.size (.slice a1 len len) ls (ms, qc) v w4) := hP
  have HK1 : Hid (∀ k, (Value.slice a1 len len).ownBlock = some k → k = w.heap.size ∧ k < w1.heap.size) := hk1
  clear hP hown3 hk1 HRun HB3
  by_cases hq0 : qc = 0
  · subst hq0
    obtain ⟨hg4, _, h4⟩ := PP.out
    obtain ⟨ho4, hnil4, _⟩ := h4 rfl
    have hll : (ls ++ ms).length = len + ms.length := by rw [List.length_append, HH.out]
    rw [hll] at ho4
    have hFv := own_form hll ho4
    have hFm := own_form rfl PM.out.1
    have HCB : Hid (a2 = some ⟨w1.heap.size, 0, none⟩ → Cells w4 w1.heap.size 0 ls) := by
      intro e
      have h1 := P2.out.2.2.1
      rw [e] at h1
      have hlt : w1.heap.size < w2.heap.size := (h1.lt w1.heap.size rfl).2
      refine ((Cells.of_own HH.out h1).keep PM.out.2 hlt).grown hg4 (by omega) (fun e2 => ?_)
      have := (HK1.out _ e2.symm).2
      omega
    have HL0 : Hid (a2 = none → len = 0) := by
      intro e
      have h := P2.out.2.2.2.2
      rw [e] at h
      rcases h with ⟨_, h, _⟩ | ⟨x, h, _⟩ | ⟨b, off, h, _⟩
      · exact h
      · exact absurd h (by simp)
      · exact absurd h (by simp)
    have HMK : Hid (∀ g, w2.heap.size ≤ g → g < w3.heap.size → Cells w3 g 0 ms → Cells w4 g 0 ms) := by
      intro g h1 h2 h3
      refine h3.grown hg4 h2 (fun e2 => ?_)
      have := (HK1.out _ e2.symm).2
      omega
    have HNil : Hid (v = .slice none 0 0 ↔ (a2 = none ∧ len = 0) ∧ ms = []) := by
      show _ ↔ _
      rw [hnil4, P2.out.1]
      simp [and_assoc]
    have HL : Hid (ls.length = len) := HH.out
    clear h4 ho4 hnil4 hg4 PP P1 hsz1 hsz2 hsz3 HS
    by_cases hm0 : ms = []
    · have hml0 : ms.length = 0 := by rw [hm0]; rfl
      rcases P2.out.2.1 with ha2 | ha2
      ·
        have hl0 := HL0.out ha2
        have hv := HNil.out.2 ⟨⟨ha2, hl0⟩, hm0⟩
        subst hv ha2
        have hmv : ∃ am cm, vm = .slice am 0 cm := by
          rcases hFm with ⟨e, _⟩ | ⟨g, c, e, _⟩
          · exact ⟨_, _, e⟩
          · rw [hml0] at e; exact ⟨_, _, e⟩
        obtain ⟨am, cm, hvm⟩ := hmv
        subst hvm
        subst hl0
        clear hFm hFv hml0 hm0 HMK HCB HL0 HNil PM P2 HK1 hml hll
        go_wp2
        go_loop [10] (fun i => i = .int .i64 0) (fun _ => 0)
        case atStart => rfl
        case round =>
          subst hrel
          go_wp2
          go_loop [11] (fun i => i = .int .i64 0) (fun _ => 0)
          case atStart => rfl
          case round =>
            subst hrel
            go_wp2
            go_ret
            exact ⟨rfl, HB4.out⟩
      ·
        have hvn : ¬ v = .slice none 0 0 := fun e => by have := (HNil.out.1 e).1.1; rw [ha2] at this; exact absurd this (by simp)
        rcases hFv with ⟨e, _⟩ | ⟨gv, cv, hv, _, _, hCv⟩
        · exact absurd e hvn
        subst hv ha2
        have HCV : Hid (Cells w4 gv 0 (ls ++ ms)) := hCv
        have HCb : Hid (Cells w4 w1.heap.size 0 ls) := HCB.out rfl
        have hmv : ∃ am cm, vm = .slice am 0 cm := by
          rcases hFm with ⟨e, _⟩ | ⟨g, c, e, _⟩
          · exact ⟨_, _, e⟩
          · rw [hml0] at e; exact ⟨_, _, e⟩
        obtain ⟨am, cm, hvm⟩ := hmv
        subst hvm
        rw [hml0, Nat.add_zero]
        clear hCv hvn hm0 HMK HCB HL0 HNil PM P2 HK1 hll
        go_wp2
        go_loopw [10] (fun i wr => ∃ k n : Nat, k ≤ len ∧ i = .int .i64 k ∧ wr = w4.drewN n) (fun i _ => len - (intOf i).toNat)
        case atStart => exact ⟨0, 0, Nat.zero_le _, rfl, rfl⟩
        case round =>
          obtain ⟨k, n, hk, rfl, rfl⟩ := hrel
          by_cases hlt : k < len
          · have hk2 : k < ls.length := by have := HL.out; omega
            have x1 : w4.cell? ⟨gv, k, none⟩ = some (.string ⟨ls[k].toArray⟩) := by
              have h := HCV.out k (by simp; omega)
              rw [Nat.zero_add] at h
              rw [h, List.getElem_append_left hk2]
            have x2 : w4.cell? ⟨w1.heap.size, k, none⟩ = some (.string ⟨ls[k].toArray⟩) := by simpa using HCb.out k hk2
            have b1 : (k : Int) < (len : Int) := by omega
            skip
            generalize (ByteArray.mk ls[k].toArray) = str at x1 x2
            clear hk2
            go_wp2
            go_quiet (fail)
            go_wp2
            go_roundw
            case rel => exact ⟨k + 1, n + nq, by omega, by go_num, by simp⟩
            case measure => simp [intOf]; omega
          go_wp2
          go_loop [11] (fun i => i = .int .i64 0) (fun _ => 0)
          case atStart => rfl
          case round =>
            subst hrel
            go_wp2
            go_ret
            exact ⟨rfl, ⟨HB4.out.os, HB4.out.tape, HB4.out.output, HB4.out.size, HB4.out.block⟩⟩
    · have hmp : 0 < ms.length := List.length_pos_iff.2 hm0
      rcases P2.out.2.1 with ha2 | ha2
      ·
        have hl0 := HL0.out ha2
        have hvn : ¬ v = .slice none 0 0 := fun e => hm0 (HNil.out.1 e).2
        rcases hFv with ⟨e, _⟩ | ⟨gv, cv, hv, _, _, hCv⟩
        · exact absurd e hvn
        subst hv ha2
        have HCV : Hid (Cells w4 gv 0 (ls ++ ms)) := hCv
        rcases hFm with ⟨_, e⟩ | ⟨gm, cm, hvm, hm1, hm2, hCm0⟩
        · exact absurd e (by simp; omega)
        have hCm := HMK.out gm hm1 hm2 hCm0
        subst hvm
        have HCm : Hid (Cells w4 gm 0 ms) := hCm
        clear hCm hCm0 hm1 hm2
        have hmz : ((ms.length : Int) == 0) = false := beq_eq_false_iff_ne.2 (by omega)
        subst hl0
        clear hCv hvn hm0 HMK HCB HL0 HNil PM P2 HK1 hll
        go_wp2
        go_loop [10] (fun i => i = .int .i64 0) (fun _ => 0)
        case atStart => rfl
        case round =>
          subst hrel
          go_wp2
          go_loopw [11] (fun i wr => ∃ j m : Nat, j ≤ ms.length ∧ i = .int .i64 j ∧ wr = w4.drewN m) (fun i _ => ms.length - (intOf i).toNat)
          case atStart => exact ⟨0, 0, Nat.zero_le _, rfl, rfl⟩
          case round =>
            obtain ⟨j, m, hj, rfl, rfl⟩ := hrel
            by_cases hlj : j < ms.length
            · have x1 : w4.cell? ⟨gv, j, none⟩ = some (.string ⟨ms[j].toArray⟩) := by
                have hL := HL.out
                have h := HCV.out (j) (by simp; omega)
                rw [Nat.zero_add] at h
                rw [h, List.getElem_append_right (by omega)]
                simp only [show j - ls.length = j from by omega]
              have x2 : w4.cell? ⟨gm, j, none⟩ = some (.string ⟨ms[j].toArray⟩) := by simpa using HCm.out j hlj
              have b1 : (j : Int) < (ms.length : Int) := by omega
              have b2 : (0 : Int) + (j : Int) < (0 : Int) + (ms.length : Int) := by omega
              generalize (ByteArray.mk ms[j].toArray) = str at x1 x2
              go_wp2
              go_quiet (fail)
              go_wp2
              go_roundw
              case rel => exact ⟨j + 1, m + nq, by omega, by go_num, by simp⟩
              case measure => simp [intOf]; omega
            · go_wp2
              go_ret
              exact ⟨rfl, ⟨HB4.out.os, HB4.out.tape, HB4.out.output, HB4.out.size, HB4.out.block⟩⟩
      ·
        have hvn : ¬ v = .slice none 0 0 := fun e => hm0 (HNil.out.1 e).2
        rcases hFv with ⟨e, _⟩ | ⟨gv, cv, hv, _, _, hCv⟩
        · exact absurd e hvn
        subst hv ha2
        have HCV : Hid (Cells w4 gv 0 (ls ++ ms)) := hCv
        have HCb : Hid (Cells w4 w1.heap.size 0 ls) := HCB.out rfl
        rcases hFm with ⟨_, e⟩ | ⟨gm, cm, hvm, hm1, hm2, hCm0⟩
        · exact absurd e (by simp; omega)
        have hCm := HMK.out gm hm1 hm2 hCm0
        subst hvm
        have HCm : Hid (Cells w4 gm 0 ms) := hCm
        clear hCm hCm0 hm1 hm2
        have hmz : ((ms.length : Int) == 0) = false := beq_eq_false_iff_ne.2 (by omega)
        clear hCv hvn hm0 HMK HCB HL0 HNil PM P2 HK1 hll
        go_wp2
        go_loopw [10] (fun i wr => ∃ k n : Nat, k ≤ len ∧ i = .int .i64 k ∧ wr = w4.drewN n) (fun i _ => len - (intOf i).toNat)
        case atStart => exact ⟨0, 0, Nat.zero_le _, rfl, rfl⟩
        case round =>
          obtain ⟨k, n, hk, rfl, rfl⟩ := hrel
          by_cases hlt : k < len
          · have hk2 : k < ls.length := by have := HL.out; omega
            have x1 : w4.cell? ⟨gv, k, none⟩ = some (.string ⟨ls[k].toArray⟩) := by
              have h := HCV.out k (by simp; omega)
              rw [Nat.zero_add] at h
              rw [h, List.getElem_append_left hk2]
            have x2 : w4.cell? ⟨w1.heap.size, k, none⟩ = some (.string ⟨ls[k].toArray⟩) := by simpa using HCb.out k hk2
            have b1 : (k : Int) < (len : Int) := by omega
            have b2 : (k : Int) < (len : Int) + (ms.length : Int) := by omega
            generalize (ByteArray.mk ls[k].toArray) = str at x1 x2
            clear hk2
            go_wp2
            go_quiet (fail)
            go_wp2
            go_roundw
            case rel => exact ⟨k + 1, n + nq, by omega, by go_num, by simp⟩
            case measure => simp [intOf]; omega
          go_wp2
          go_loopw [11] (fun i wr => ∃ j m : Nat, j ≤ ms.length ∧ i = .int .i64 j ∧ wr = w4.drewN m) (fun i _ => ms.length - (intOf i).toNat)
          case atStart => exact ⟨0, n, Nat.zero_le _, rfl, rfl⟩
          case round =>
            obtain ⟨j, m, hj, rfl, rfl⟩ := hrel
            by_cases hlj : j < ms.length
            · have x1 : w4.cell? ⟨gv, len + j, none⟩ = some (.string ⟨ms[j].toArray⟩) := by
                have hL := HL.out
                have h := HCV.out (len + j) (by simp; omega)
                rw [Nat.zero_add] at h
                rw [h, List.getElem_append_right (by omega)]
                simp only [show len + j - ls.length = j from by omega]
              have x2 : w4.cell? ⟨gm, j, none⟩ = some (.string ⟨ms[j].toArray⟩) := by simpa using HCm.out j hlj
              have b1 : (j : Int) < (ms.length : Int) := by omega
              have b2 : (len : Int) + (j : Int) < (len : Int) + (ms.length : Int) := by omega
              generalize (ByteArray.mk ms[j].toArray) = str at x1 x2
              go_wp2
              go_quiet (fail)
              go_wp2
              go_roundw
              case rel => exact ⟨j + 1, m + nq, by omega, by go_num, by simp⟩
              case measure => simp [intOf]; omega
            · go_wp2
              go_ret
              exact ⟨rfl, ⟨HB4.out.os, HB4.out.tape, HB4.out.output, HB4.out.size, HB4.out.block⟩⟩
  · have hv : v = .slice none 0 0 := PP.out.2.1 hq0
    have tq : ((qc.toNat : Int) != 0) = true := by
      rw [bne, show ((qc.toNat : Int) == 0) = (qc == 0) from beq_byte qc 0 (by omega), beq_eq_false_iff_ne.2 hq0]; rfl
    subst hv
    clear hq0 PP P1 P2 HS HK1 PM
    go_wp2
    go_ret
    exact ⟨rfl, HB4.out⟩

end Go.Proofs.Qxb6603470a
