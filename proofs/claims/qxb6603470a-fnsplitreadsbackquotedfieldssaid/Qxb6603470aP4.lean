import Derived.Test.Qxb6603470aP2
import Derived.Lib.SliceRun
namespace Go.Proofs.Qxb6603470a
open Go.RowKit

def tot (ls : List (List UInt8)) : Nat := (ls.map List.length).sum
theorem tot_snoc (ls : List (List UInt8)) (l : List UInt8) : tot (ls ++ [l]) = tot ls + l.length := by simp [tot]
theorem take_snocL {α : Type} (ls : List α) (k : Nat) (h : k < ls.length) : ls.take (k + 1) = ls.take k ++ [ls[k]] := List.take_succ_eq_append_getElem h

def Cells (w : World) (b off : Nat) (ls : List (List UInt8)) : Prop := ∀ j (h : j < ls.length), w.cell? ⟨b, off + j, none⟩ = some (.string ⟨ls[j].toArray⟩)

theorem size_mk (l : List UInt8) : (ByteArray.mk l.toArray).size = l.length := by show l.toArray.size = _; simp

def IsBool (e : Ending) : Prop := ∃ r : Bool, e = .returned (.bool r)
theorem IsBool.mk {r : Bool} {e : Ending} (h : e = .returned (.bool r)) : IsBool e := ⟨r, h⟩

set_option maxHeartbeats 400000 in
theorem addString_any (t : Int) (h0 : 0 ≤ t) (h1 : t ≤ 1073741824) (s : ByteArray) (hs : s.size ≤ maxLen) (w : World) :
    Calls Try.prog 25 #[.int .i64 t, .string s] w fun e w' => ∃ r : Int, e = .returned (.int .i64 r) ∧ (0 ≤ r ∧ r ≤ 1048577 ∧ (r ≤ 1048576 → r = t + s.size)) ∧ w = w' := by
  unfold maxLen at hs
  go_enter Try.func25, Try.ntmps25
  go_wp2
  all_goals
    go_ret
    exact ⟨_, rfl, ⟨by omega, by omega, by omega⟩, rfl⟩

set_option maxHeartbeats 400000 in
theorem zz11_some (b off len cap : Nat) (ls : List (List UInt8)) (hlen : ls.length = len) (hm : len ≤ maxLen) (w : World) (hc : Cells w b off ls) (hsz : ∀ l ∈ ls, l.length ≤ maxLen) :
    Calls Try.prog 11 #[.slice (some ⟨b, off, none⟩) len cap] w fun e w' => IsBool e ∧ w = w' := by
  unfold maxLen at hm
  by_cases hbig : 1048576 < len
  · go_enter Try.func11, Try.ntmps11
    go_wp2
    go_ret
    exact ⟨⟨_, rfl⟩, rfl⟩
  · go_enter Try.func11, Try.ntmps11
    go_wp2
    go_loop [3, 4] (fun z i => ∃ k t : Nat, k ≤ len ∧ i = .int .i64 k ∧ z = .int .i64 t ∧ t ≤ 1048576) (fun _ i => len - (intOf i).toNat)
    case atStart => exact ⟨0, len, Nat.zero_le _, rfl, rfl, by omega⟩
    case round =>
      obtain ⟨k, t, hk, rfl, rfl, ht⟩ := hrel
      by_cases hlt : k < len
      · have hcell := hc k (by omega)
        have hs := hsz (ls[k]'(by omega)) (List.getElem_mem _)
        unfold maxLen at hs
        have hsm := size_mk (ls[k]'(by omega))
        have HH : Hid (ls.length = len) := hlen
        clear hc hsz
        go_wp2
        · go_ret
          exact ⟨⟨_, rfl⟩, rfl⟩
        · go_ret
          exact ⟨⟨_, rfl⟩, rfl⟩
        · go_round
          case rel => exact ⟨k + 1, t + ls[k].length, by omega, by go_num, by go_num, by omega⟩
          case measure => simp [intOf]; omega
      · go_wp2
        go_ret
        exact ⟨⟨_, rfl⟩, rfl⟩

set_option maxHeartbeats 400000 in
theorem zz11_none (a : Option Addr) (cap : Nat) (w : World) :
    Calls Try.prog 11 #[.slice a 0 cap] w fun e w' => IsBool e ∧ w = w' := by
  go_enter Try.func11, Try.ntmps11
  go_wp2
  go_loop [4] (fun i => i = .int .i64 0) (fun _ => 0)
  case atStart => rfl
  case round =>
    subst hrel
    go_wp2
    go_ret
    exact ⟨⟨_, rfl⟩, rfl⟩

set_option maxHeartbeats 400000 in
theorem addStrings_none (t : Nat) (ht : t ≤ 2097152) (a : Option Addr) (cap : Nat) (w : World) :
    Calls Try.prog 7 #[.int .i64 t, .slice a 0 cap] w fun e w' => ∃ r : Int, e = .returned (.int .i64 r) ∧ (r ≤ 1048576 → r = t) ∧ w = w' := by
  by_cases hb : 1048576 < t
  · go_enter Try.func7, Try.ntmps7
    go_wp2
    go_ret
    exact ⟨_, rfl, by omega, rfl⟩
  · go_enter Try.func7, Try.ntmps7
    go_wp2
    go_loop [0, 5] (fun z i => z = .int .i64 t ∧ i = .int .i64 0) (fun _ _ => 0)
    case atStart => exact ⟨rfl, rfl⟩
    case round =>
      obtain ⟨rfl, rfl⟩ := hrel
      go_wp2
      go_ret
      exact ⟨_, rfl, by omega, rfl⟩

set_option maxHeartbeats 400000 in
theorem addStrings_some (t : Nat) (ht : t ≤ 2097152) (b off len cap : Nat) (ls : List (List UInt8)) (hlen : ls.length = len) (hm : len ≤ maxLen) (w : World) (hc : Cells w b off ls) (hsz : ∀ l ∈ ls, l.length ≤ maxLen) :
    Calls Try.prog 7 #[.int .i64 t, .slice (some ⟨b, off, none⟩) len cap] w fun e w' => ∃ r : Int, e = .returned (.int .i64 r) ∧ (r ≤ 1048576 → r = t + 16 * len + tot ls) ∧ w = w' := by
  unfold maxLen at hm
  by_cases hb1 : 1048576 < t
  · go_enter Try.func7, Try.ntmps7
    go_wp2
    go_ret
    exact ⟨_, rfl, by omega, rfl⟩
  by_cases hb2 : 1048576 < len
  · go_enter Try.func7, Try.ntmps7
    go_wp2
    go_ret
    exact ⟨_, rfl, by omega, rfl⟩
  · go_enter Try.func7, Try.ntmps7
    go_wp2
    go_loop [0, 5] (fun z i => ∃ (k : Nat) (r : Int), k ≤ len ∧ i = .int .i64 k ∧ z = .int .i64 r ∧ 0 ≤ r ∧ r ≤ 1073741824 ∧ (r ≤ 1048576 → r = t + 16 * len + tot (ls.take k))) (fun _ i => len - (intOf i).toNat)
    case atStart => exact ⟨0, (t : Int) + 16 * len, Nat.zero_le _, rfl, by go_num, by omega, by omega, by simp [tot]⟩
    case round =>
      obtain ⟨k, r, hk, rfl, rfl, hr0, hr1, hr2⟩ := hrel
      have HR : Hid (r ≤ 1048576 → r = t + 16 * len + tot (ls.take k)) := hr2
      clear hr2
      by_cases hlt : k < len
      · have hcell := hc k (by omega)
        have hs := hsz (ls[k]'(by omega)) (List.getElem_mem _)
        have hs2 : (ByteArray.mk (ls[k]'(by omega)).toArray).size ≤ maxLen := by rw [size_mk]; exact hs
        have HS : Hid (tot (ls.take (k + 1)) = tot (ls.take k) + (ls[k]'(by omega)).length) := by
          show _ = _
          rw [take_snocL ls k (by omega), tot_snoc]
        have HH : Hid (ls.length = len) := hlen
        have hm2 : Hid ((ByteArray.mk (ls[k]'(by omega)).toArray).size = (ls[k]'(by omega)).length) := size_mk _
        clear hc hsz
        go_wp2_with (go_at_call 25; refine (addString_any _ hr0 hr1 _ hs2 _).mono ?_; rintro e w' ⟨r', rfl, hr', rfl⟩)
        go_round
        case rel => exact ⟨k + 1, r', by omega, by go_num, rfl, hr'.1, by omega, fun h => by
          have h1 := hr'.2.2 h
          rw [hm2.out] at h1
          have h2 := HR.out (by omega)
          rw [HS.out]; omega⟩
        case measure => simp [intOf]; omega
      · have HE : Hid (ls.take k = ls) := List.take_of_length_le (by omega)
        clear hc hsz
        go_wp2
        all_goals
          go_ret
          exact ⟨_, rfl, fun h => by first | omega | (have := HR.out h; rw [HE.out] at this; exact this), rfl⟩

end Go.Proofs.Qxb6603470a
