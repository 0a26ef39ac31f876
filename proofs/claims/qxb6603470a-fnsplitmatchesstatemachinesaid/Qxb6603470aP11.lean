import Derived.Test.Qxb6603470aP8
import Derived.Test.Qxb6603470aP10
namespace Go.Proofs.Qxb6603470a
open Go.RowKit

theorem IsStrs.len {w : World} {a : Option Addr} {len cap : Nat} {ls : List (List UInt8)} (h : IsStrs w a len cap ls) : ls.length = len := by
  rcases h with ⟨_, h1, _, h2⟩ | ⟨_, _, h1, h2⟩ | ⟨_, _, _, _, _, h, _⟩
  · rw [h1, h2]; rfl
  · rw [h1, h2]; rfl
  · exact h

set_option maxHeartbeats 400000 in
theorem zz6_some (b off len cap : Nat) (ls : List (List UInt8)) (hlen : ls.length = len) (hm : len ≤ maxLen) (line : ByteArray) (hline : line.size ≤ maxLen) (w : World) (hc : Cells w b off ls) (hsz : ∀ l ∈ ls, l.length ≤ maxLen) :
    Calls Try.prog 6 #[.slice (some ⟨b, off, none⟩) len cap, .string line] w fun e w' => IsBool e ∧ w = w' := by
  unfold maxLen at hm hline
  by_cases hbig : 1048576 < len
  · go_enter Try.func6, Try.ntmps6
    go_wp2
    go_ret
    exact ⟨⟨_, rfl⟩, rfl⟩
  · go_enter Try.func6, Try.ntmps6
    go_wp2
    go_loop [5, 6] (fun z i => ∃ k t : Nat, k ≤ len ∧ i = .int .i64 k ∧ z = .int .i64 t ∧ t ≤ 1048576) (fun _ i => len - (intOf i).toNat)
    case atStart => exact ⟨0, len, Nat.zero_le _, rfl, rfl, by omega⟩
    case round =>
      obtain ⟨k, t, hk, rfl, rfl, ht⟩ := hrel
      by_cases hlt : k < len
      · have hcell := hc k (by omega)
        have hs := hsz (ls[k]'(by omega)) (List.getElem_mem _)
        unfold maxLen at hs
        have hsm := size_mk (ls[k]'(by omega))
        have HH : Hid (ls.length = len) := hlen
        clear hc hsz
        go_wp2
        · go_ret
          exact ⟨⟨_, rfl⟩, rfl⟩
        · go_ret
          exact ⟨⟨_, rfl⟩, rfl⟩
        · go_round
          case rel => exact ⟨k + 1, t + ls[k].length, by omega, by go_num, by go_num, by omega⟩
          case measure => simp [intOf]; omega
      · clear hc hsz
        go_wp2
        all_goals
          go_ret
          exact ⟨⟨_, rfl⟩, rfl⟩

set_option maxHeartbeats 400000 in
theorem zz6_none (a : Option Addr) (cap : Nat) (line : ByteArray) (hline : line.size ≤ maxLen) (w : World) :
    Calls Try.prog 6 #[.slice a 0 cap, .string line] w fun e w' => IsBool e ∧ w = w' := by
  unfold maxLen at hline
  go_enter Try.func6, Try.ntmps6
  go_wp2
  go_loop [5, 6] (fun z i => z = .int .i64 0 ∧ i = .int .i64 0) (fun _ _ => 0)
  case atStart => exact ⟨rfl, rfl⟩
  case round =>
    obtain ⟨rfl, rfl⟩ := hrel
    go_wp2
    all_goals
      go_ret
      exact ⟨⟨_, rfl⟩, rfl⟩

theorem zz6_any (a : Option Addr) (len cap : Nat) (ls : List (List UInt8)) (line : ByteArray) (hline : line.size ≤ maxLen) (w : World) (h : IsStrs w a len cap ls) :
    Calls Try.prog 6 #[.slice a len cap, .string line] w fun e w' => IsBool e ∧ w = w' := by
  rcases h with ⟨rfl, rfl, rfl, _⟩ | ⟨x, rfl, rfl, _⟩ | ⟨b, off, rfl, hp, hm, hl, hc, hs⟩
  · exact zz6_none none 0 line hline w
  · exact zz6_none (some x) cap line hline w
  · exact zz6_some b off len cap ls hl hm line hline w hc hs

theorem addStrings_any (t : Nat) (ht : t ≤ 2097152) (a : Option Addr) (len cap : Nat) (ls : List (List UInt8)) (w : World) (h : IsStrs w a len cap ls) :
    Calls Try.prog 7 #[.int .i64 t, .slice a len cap] w fun e w' => ∃ r : Int, e = .returned (.int .i64 r) ∧ (r ≤ 1048576 → r = t + 16 * len + tot ls) ∧ w = w' := by
  rcases h with ⟨rfl, rfl, rfl, rfl⟩ | ⟨x, rfl, rfl, rfl⟩ | ⟨b, off, rfl, hp, hm, hl, hc, hs⟩
  · refine (addStrings_none t ht none 0 w).mono ?_
    rintro e w' ⟨r, rfl, hr, hw⟩
    exact ⟨r, rfl, by simpa [tot] using hr, hw⟩
  · refine (addStrings_none t ht (some x) cap w).mono ?_
    rintro e w' ⟨r, rfl, hr, hw⟩
    exact ⟨r, rfl, by simpa [tot] using hr, hw⟩
  · exact addStrings_some t ht b off len cap ls hl hm w hc hs

theorem clone_any (a : Option Addr) (len cap : Nat) (ls : List (List UInt8)) (w : World) (h : IsStrs w a len cap ls) (hm : len ≤ 1048576) :
    Calls Try.prog 8 #[.slice a len cap] w fun e w' => ∃ a', e = .returned (.slice a' len len) ∧ (a' = none ↔ a = none) ∧ (a' = none ∨ a' = some ⟨w.heap.size, 0, none⟩) ∧
      w'.ownsRow w.heap.size 9 1 (.slice a' len len) len (strs ls) ∧ Below w.heap.size w w' ∧ IsStrs w' a' len len ls := by
  rcases h with ⟨rfl, rfl, rfl, rfl⟩ | ⟨x, rfl, rfl, rfl⟩ | ⟨b, off, rfl, hp, hm', hl, hc, hs⟩
  · refine (clone_nil w).mono ?_
    rintro e w' ⟨rfl, rfl⟩
    exact ⟨none, rfl, by simp, .inl rfl, World.ownsRow_nil _ _ _ _, Below.refl _ _, .inl ⟨rfl, rfl, rfl, rfl⟩⟩
  · refine (clone_zero x cap w).mono ?_
    rintro e w' ⟨rfl, ho, hb⟩
    exact ⟨_, rfl, by simp, .inr rfl, ho, hb, .inr (.inl ⟨_, rfl, rfl, rfl⟩)⟩
  · refine (clone_some b off len cap ls hl hm w hc).mono ?_
    rintro e w' ⟨rfl, ho, hb⟩
    exact ⟨_, rfl, by simp, .inr rfl, ho, hb, .inr (.inr ⟨_, _, rfl, hp, hm', hl, Cells.of_own hl ho, hs⟩)⟩

theorem run_len (l : List UInt8) (q : UInt8) (e f : Bool) (cur : List UInt8) (out : List (List UInt8)) : (run l q e f cur out).1.length ≤ out.length + l.length + 1 := by
  induction l generalizing q e f cur out with
  | nil =>
    unfold run
    by_cases hq : q = 0
    · rw [if_pos hq]; cases f <;> simp
    · rw [if_neg hq]; simp
  | cons c r ih =>
    unfold run
    have key : ∀ q' e' f' cur' out', out'.length ≤ out.length + 1 → (run r q' e' f' cur' out').1.length ≤ out.length + (c :: r).length + 1 := by
      intro q' e' f' cur' out' h
      have := ih q' e' f' cur' out'
      simp; omega
    repeat' split
    all_goals (apply key; first | omega | simp)

end Go.Proofs.Qxb6603470a
