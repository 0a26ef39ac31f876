import Derived.Test.Qxb6603470aP3
import Derived.Test.Qxb6603470aP6
namespace Go.Proofs.Qxb6603470a
open Go.RowKit

set_option maxHeartbeats 400000 in
theorem zzsplit_any (line : ByteArray) (hl : line.size ≤ 4194304) (base : Nat) (v0 : Value) (f0 : List (List UInt8)) (hn : f0.length ≤ 4194304) (w : World)
    (hown : w.ownsRow base 9 1 v0 f0.length (strs f0)) (hbase : base ≤ w.heap.size) (R : List (List UInt8) × UInt8) (hR : R = run line.data.toList 0 false false [] []) :
    Calls Try.prog 10 #[v0, .string line] w fun e w' => ∃ v, e = .returned (.tuple #[v, .int .u8 R.2.toNat]) ∧ Post w base v0 f0 R v w' := by
  have C : Hid (Calls Try.prog 27 #[v0, .string line] w fun e w' => ∃ v, e = .returned (.tuple #[v, .int .u8 R.2.toNat]) ∧ Post w base v0 f0 R v w') := split_any line hl base v0 f0 hn w hown hbase R hR
  clear hR hown hbase
  go_enter Try.func10, Try.ntmps10
  go_wp2_with (go_at_call 27; refine C.out.mono ?_; rintro e w' ⟨v, rfl, hp⟩)
  go_ret2
  exact ⟨v, rfl, hp⟩

theorem below_of_grown {w w' : World} (h : w.grownBy w' none) : Below w.heap.size w w' := ⟨h.os, h.tape, h.output, h.size, fun k hk => h.block k hk (by simp)⟩

theorem Cells.of_own {w : World} {base g n cap : Nat} {ls : List (List UInt8)} (hn : ls.length = n) (h : w.ownsRow base 9 1 (.slice (some ⟨g, 0, none⟩) n cap) n (strs ls)) : Cells w g 0 ls := by
  intro j hj
  have := h.cellAt j (by omega)
  rw [Nat.zero_add, this]
  simp [strs, List.getElem?_eq_getElem hj]

theorem Cells.keep {w w' : World} {g off B : Nat} {ls : List (List UInt8)} (h : Cells w g off ls) (hb : Below B w w') (hg : g < B) : Cells w' g off ls := by
  intro j hj
  rw [hb.cell (p := ⟨g, off + j, none⟩) hg]; exact h j hj

theorem Cells.lt {w : World} {g off : Nat} {ls : List (List UInt8)} (h : Cells w g off ls) (hp : 0 < ls.length) : g < w.heap.size := World.block_lt_of_cell? w _ (h 0 hp)

theorem toList_mk (l : List UInt8) : (ByteArray.mk l.toArray).data.toList = l := by simp

theorem zzsplit_qj (ls : List (List UInt8)) (hl : (qj ls).length ≤ 4194304) (hp : 0 < ls.length) (w : World) :
    Calls Try.prog 10 #[.slice none 0 0, .string ⟨(qj ls).toArray⟩] w fun e w' => ∃ g cap, e = .returned (.tuple #[.slice (some ⟨g, 0, none⟩) ls.length cap, .int .u8 0]) ∧ Cells w' g 0 ls ∧ Below w.heap.size w w' := by
  refine (zzsplit_any ⟨(qj ls).toArray⟩ (by rw [size_mk]; exact hl) w.heap.size (.slice none 0 0) [] (by simp) w (World.ownsRow_nil _ _ _ _) (Nat.le_refl _) (ls, 0) (by rw [toList_mk, run_qj]; simp)).mono ?_
  rintro e w' ⟨v, rfl, hg, _, h2⟩
  obtain ⟨ho, _, _⟩ := h2 rfl
  simp only [List.nil_append] at ho
  have hc := ho
  rcases ho.2 with ⟨_, h0⟩ | ⟨g, cap, cur, rfl, _⟩
  · omega
  · exact ⟨g, cap, rfl, Cells.of_own rfl hc, below_of_grown hg⟩

theorem zzsplit_none (w : World) :
    Calls Try.prog 10 #[.slice none 0 0, .string ⟨#[]⟩] w fun e w' => e = .returned (.tuple #[.slice none 0 0, .int .u8 0]) ∧ Below w.heap.size w w' := by
  refine (zzsplit_any ⟨#[]⟩ (by decide) w.heap.size (.slice none 0 0) [] (by simp) w (World.ownsRow_nil _ _ _ _) (Nat.le_refl _) ([], 0) (by simp [run])).mono ?_
  rintro e w' ⟨v, rfl, hg, _, h2⟩
  obtain ⟨_, hn, _⟩ := h2 rfl
  rw [hn.2 ⟨rfl, rfl⟩]
  exact ⟨rfl, below_of_grown hg⟩

theorem addStrings_some0 (b off len cap : Nat) (ls : List (List UInt8)) (hlen : ls.length = len) (hm : len ≤ maxLen) (w : World) (hc : Cells w b off ls) (hsz : ∀ l ∈ ls, l.length ≤ maxLen) :
    Calls Try.prog 7 #[.int .i64 0, .slice (some ⟨b, off, none⟩) len cap] w fun e w' => ∃ r : Int, e = .returned (.int .i64 r) ∧ (r ≤ 1048576 → r = 16 * len + tot ls) ∧ w = w' := by
  have h := addStrings_some 0 (by omega) b off len cap ls hlen hm w hc hsz
  simpa using h
theorem addStrings_none0 (a : Option Addr) (cap : Nat) (w : World) :
    Calls Try.prog 7 #[.int .i64 0, .slice a 0 cap] w fun e w' => ∃ r : Int, e = .returned (.int .i64 r) ∧ (r ≤ 1048576 → r = 0) ∧ w = w' := by
  have h := addStrings_none 0 (by omega) a cap w
  simpa using h

set_option maxHeartbeats 1000000 in
theorem law4_some (b off len cap : Nat) (ls : List (List UInt8)) (hlen : ls.length = len) (hpos : 0 < len) (hm : len ≤ maxLen) (w : World) (hc : Cells w b off ls) (hsz : ∀ l ∈ ls, l.length ≤ maxLen) :
    Calls Try.prog 4 #[.slice (some ⟨b, off, none⟩) len cap] w fun e w' => e = .returned (.bool true) ∧ Below w.heap.size w w' := by
  have q := eqnil22
  have D1 : Hid (Calls Try.prog 11 #[.slice (some ⟨b, off, none⟩) len cap] w fun e w' => IsBool e ∧ w = w') := zz11_some b off len cap ls hlen hm w hc hsz
  have D2 : Hid (Calls Try.prog 7 #[.int .i64 0, .slice (some ⟨b, off, none⟩) len cap] w fun e w' => ∃ r : Int, e = .returned (.int .i64 r) ∧ (r ≤ 1048576 → r = 16 * len + tot ls) ∧ w = w') := addStrings_some0 b off len cap ls hlen hm w hc hsz
  have HC : Hid (Cells w b off ls) := hc
  have HH : Hid (ls.length = len) := hlen
  have hz : ((len : Int) == 0) = false := beq_eq_false_iff_ne.2 (by omega)
  unfold maxLen at hm
  clear hc hsz hlen
  go_enter Try.func4, Try.ntmps4
  go_wp2_with fail
  refine D1.out.mono ?_
  rintro e w' ⟨⟨r, rfl⟩, rfl⟩
  cases r
  · go_wp2
    go_ret
    exact ⟨rfl, Below.refl _ _⟩
  go_wp2_with fail
  refine D2.out.mono ?_
  rintro e w' ⟨r, rfl, hr, rfl⟩
  have HR : Hid (r ≤ 1048576 → r = 16 * len + tot ls) := hr
  clear hr
  by_cases hbig : 1048576 < r
  · go_wp2
    go_ret
    exact ⟨rfl, Below.refl _ _⟩
  have hb0 := HR.out (by omega)
  have htot : tot ls ≤ 1048576 := by omega
  have hl16 : len ≤ 65536 := by omega
  clear hb0 HR
  go_wp2_with fail
  refine (clone_some b off len cap ls HH.out (by omega) w HC.out).mono ?_
  rintro e w1 ⟨rfl, ho1, hb1⟩
  have HC1 : Hid (Cells w1 w.heap.size 0 ls) := Cells.of_own HH.out ho1
  have HB1 : Hid (Below w.heap.size w w1) := hb1
  clear ho1 hb1
  go_wp2_with fail
  refine (qj_some w.heap.size len len ls HH.out (by omega) htot w1 HC1.out).mono ?_
  rintro e w2 ⟨rfl, hb2⟩
  have HB2 : Hid (Below w1.heap.size w1 w2) := hb2
  clear hb2
  have hql : (qj ls).length ≤ 4194304 := by
    have := qj_len ls
    have := HH.out
    omega
  go_wp2_with fail
  refine (zzsplit_qj ls hql (by have := HH.out; omega) w2).mono ?_
  rintro e w3 ⟨g, cap3, rfl, hc3, hb3⟩
  rw [HH.out]
  have hp : 0 < ls.length := by have := HH.out; omega
  have hlt1 : w.heap.size < w1.heap.size := HC1.out.lt hp
  have HF : Hid (Cells w3 w.heap.size 0 ls) := ((HC1.out.keep HB2.out hlt1).keep hb3 (Nat.lt_of_lt_of_le hlt1 HB2.out.size))
  have HG : Hid (Cells w3 g 0 ls) := hc3
  have HB : Hid (Below w.heap.size w w3) := (HB1.out.trans (HB2.out.mono (Nat.le_of_lt hlt1))).trans (hb3.mono (Nat.le_trans (Nat.le_of_lt hlt1) HB2.out.size))
  clear hc3 hb3 hql hp
  go_wp2
  go_loopw [5] (fun i wr => ∃ k n : Nat, k ≤ len ∧ i = .int .i64 k ∧ wr = w3.drewN n) (fun i _ => len - (intOf i).toNat)
  case atStart => exact ⟨0, 0, Nat.zero_le _, rfl, rfl⟩
  case round =>
    obtain ⟨k, n, hk, rfl, rfl⟩ := hrel
    by_cases hlt : k < len
    · have hk2 : k < ls.length := by have := HH.out; omega
      have x1 : w3.cell? ⟨w.heap.size, k, none⟩ = some (.string ⟨ls[k].toArray⟩) := by simpa using HF.out k hk2
      have x2 : w3.cell? ⟨g, k, none⟩ = some (.string ⟨ls[k].toArray⟩) := by simpa using HG.out k hk2
      have b1 : (k : Int) < (len : Int) := by omega
      generalize (ByteArray.mk ls[k].toArray) = str at x1 x2
      clear hk2
      go_wp2
      go_quiet (fail)
      go_wp2
      go_roundw
      case rel => exact ⟨k + 1, n + nq, by omega, by go_num, by simp⟩
      case measure => simp [intOf]; omega
    · go_wp2
      go_ret
      exact ⟨rfl, ⟨HB.out.os, HB.out.tape, HB.out.output, HB.out.size, HB.out.block⟩⟩

set_option maxHeartbeats 1000000 in
theorem law4_nil (w : World) :
    Calls Try.prog 4 #[.slice none 0 0] w fun e w' => e = .returned (.bool true) ∧ Below w.heap.size w w' := by
  have q := eqnil22
  go_enter Try.func4, Try.ntmps4
  go_wp2_with fail
  refine (zz11_none none 0 w).mono ?_
  rintro e w' ⟨⟨r, rfl⟩, rfl⟩
  cases r
  · go_wp2
    go_ret
    exact ⟨rfl, Below.refl _ _⟩
  go_wp2_with fail
  refine (addStrings_none0 none 0 w).mono ?_
  rintro e w' ⟨r, rfl, hr, rfl⟩
  clear hr
  by_cases hbig : 1048576 < r
  · go_wp2
    go_ret
    exact ⟨rfl, Below.refl _ _⟩
  go_wp2_with fail
  refine (clone_nil w).mono ?_
  rintro e w' ⟨rfl, rfl⟩
  go_wp2_with fail
  refine (qj_zero none 0 w).mono ?_
  rintro e w' ⟨rfl, rfl⟩
  go_wp2_with fail
  refine (zzsplit_none w).mono ?_
  rintro e w3 ⟨rfl, hb3⟩
  have HB : Hid (Below w.heap.size w w3) := hb3
  clear hb3
  go_wp2
  go_loop [5] (fun i => i = .int .i64 0) (fun _ => 0)
  case atStart => rfl
  case round =>
    subst hrel
    go_wp2
    go_ret
    exact ⟨rfl, HB.out⟩

set_option maxHeartbeats 1000000 in
theorem law4_zero (x : Addr) (cap : Nat) (w : World) :
    Calls Try.prog 4 #[.slice (some x) 0 cap] w fun e w' => e = .returned (.bool true) ∧ Below w.heap.size w w' := by
  have q := eqnil22
  go_enter Try.func4, Try.ntmps4
  go_wp2_with fail
  refine (zz11_none (some x) cap w).mono ?_
  rintro e w' ⟨⟨r, rfl⟩, rfl⟩
  cases r
  · go_wp2
    go_ret
    exact ⟨rfl, Below.refl _ _⟩
  go_wp2_with fail
  refine (addStrings_none0 (some x) cap w).mono ?_
  rintro e w' ⟨r, rfl, hr, rfl⟩
  clear hr
  by_cases hbig : 1048576 < r
  · go_wp2
    go_ret
    exact ⟨rfl, Below.refl _ _⟩
  go_wp2_with fail
  refine (clone_zero x cap w).mono ?_
  rintro e w1 ⟨rfl, _, hb1⟩
  have HB1 : Hid (Below w.heap.size w w1) := hb1
  clear hb1
  go_wp2_with fail
  refine (qj_zero (some ⟨w.heap.size, 0, none⟩) 0 w1).mono ?_
  rintro e w' ⟨rfl, rfl⟩
  go_wp2_with fail
  refine (zzsplit_none w1).mono ?_
  rintro e w3 ⟨rfl, hb3⟩
  have HB : Hid (Below w.heap.size w w3) := HB1.out.trans (hb3.mono HB1.out.size)
  clear hb3 HB1
  go_wp2
  go_loop [5] (fun i => i = .int .i64 0) (fun _ => 0)
  case atStart => rfl
  case round =>
    subst hrel
    go_wp2
    go_ret
    exact ⟨rfl, HB.out⟩

end Go.Proofs.Qxb6603470a
