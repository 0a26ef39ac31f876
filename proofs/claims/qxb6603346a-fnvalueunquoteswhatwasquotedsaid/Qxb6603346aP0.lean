import Derived.Lib.Strings
namespace Go.Proofs.Qxb6603346a

def esc (all : Bool) (c : UInt8) : List UInt8 := if all || c == 34 || c == 92 then [92, c] else [c]
def E (all : Bool) (l : List UInt8) : List UInt8 := l.flatMap (esc all)

theorem E_snoc (all : Bool) (l : List UInt8) (c : UInt8) : E all (l ++ [c]) = E all l ++ esc all c := by
  simp [E]
theorem E_append (all : Bool) (l m : List UInt8) : E all (l ++ m) = E all l ++ E all m := by
  simp [E]
theorem E_cons (all : Bool) (c : UInt8) (l : List UInt8) : E all (c :: l) = esc all c ++ E all l := by
  simp [E]
theorem esc_len (all : Bool) (c : UInt8) : (esc all c).length ≤ 2 := by
  unfold esc; split <;> simp
theorem E_len (all : Bool) (l : List UInt8) : (E all l).length ≤ 2 * l.length := by
  induction l with
  | nil => simp [E]
  | cons c l ih => rw [E_cons]; have := esc_len all c; simp; omega
theorem take_snoc (s : ByteArray) (k : Nat) (h : k < s.size) : s.data.toList.take (k + 1) = s.data.toList.take k ++ [s[k]] := by
  rw [List.take_succ_eq_append_getElem (by simpa using h)]; rfl
theorem esc_yes (all : Bool) (c : UInt8) (h : all = true ∨ c = 34 ∨ c = 92) : esc all c = [92, c] := by
  unfold esc; rcases h with h | h | h <;> simp [h]
theorem esc_no (c : UInt8) (h1 : c ≠ 34) (h2 : c ≠ 92) : esc false c = [c] := by
  unfold esc; simp [h1, h2]

theorem get_at {S : ByteArray} {l r : List UInt8} {c : UInt8} (h : S.data.toList = l ++ c :: r) : ∃ hl : l.length < S.size, S[l.length] = c := by
  have hsz : S.size = (l ++ c :: r).length := by rw [← h, Array.length_toList]; rfl
  have hl : l.length < S.size := by rw [hsz]; simp
  refine ⟨hl, ?_⟩
  have e : S[l.length] = S.data.toList[l.length]'(by simpa using hl) := by simp [ByteArray.getElem_eq_getElem_data]
  rw [e]
  simp only [h]
  simp

theorem split_at {all : Bool} {x : List UInt8} {k : Nat} (hk : k < x.length) : E all x = E all (x.take k) ++ (esc all x[k] ++ E all (x.drop (k + 1))) := by
  conv => lhs; rw [← List.take_append_drop k x, List.drop_eq_getElem_cons hk]
  rw [E_append, E_cons]

def posn (all : Bool) (pre x : List UInt8) (k : Nat) : Nat := pre.length + 1 + (E all (x.take k)).length

theorem round_esc {S : ByteArray} {all : Bool} {pre x tail : List UInt8} {k : Nat} (hS : S.data.toList = pre ++ (34 :: (E all x ++ (34 :: tail)))) (hk : k < x.length)
    (hc : all = true ∨ x[k] = 34 ∨ x[k] = 92) :
    posn all pre x (k + 1) = posn all pre x k + 1 + 1 ∧ ∃ (h1 : posn all pre x k < S.size) (h2 : posn all pre x k + 1 < S.size), S[posn all pre x k] = 92 ∧ S[posn all pre x k + 1] = x[k] := by
  have e := esc_yes all x[k] hc
  refine ⟨?_, ?_⟩
  · unfold posn
    rw [List.take_succ_eq_append_getElem hk, E_snoc, e]; simp; omega
  · rw [split_at hk, e] at hS
    have h1 := get_at (S := S) (l := pre ++ 34 :: E all (x.take k)) (c := 92) (r := x[k] :: (E all (x.drop (k + 1)) ++ 34 :: tail)) (by rw [hS]; simp)
    have h2 := get_at (S := S) (l := pre ++ 34 :: (E all (x.take k) ++ [92])) (c := x[k]) (r := (E all (x.drop (k + 1)) ++ 34 :: tail)) (by rw [hS]; simp)
    have l1 : (pre ++ 34 :: E all (x.take k)).length = posn all pre x k := by unfold posn; simp; omega
    have l2 : (pre ++ 34 :: (E all (x.take k) ++ [92])).length = posn all pre x k + 1 := by unfold posn; simp; omega
    obtain ⟨a1, b1⟩ := h1
    obtain ⟨a2, b2⟩ := h2
    simp only [l1] at b1
    simp only [l2] at b2
    exact ⟨by omega, by omega, b1, b2⟩

theorem round_plain {S : ByteArray} {pre x tail : List UInt8} {k : Nat} (hS : S.data.toList = pre ++ (34 :: (E false x ++ (34 :: tail)))) (hk : k < x.length)
    (h34 : x[k] ≠ 34) (h92 : x[k] ≠ 92) :
    posn false pre x (k + 1) = posn false pre x k + 1 ∧ ∃ (h1 : posn false pre x k < S.size), S[posn false pre x k] = x[k] := by
  have e := esc_no x[k] h34 h92
  refine ⟨?_, ?_⟩
  · unfold posn
    rw [List.take_succ_eq_append_getElem hk, E_snoc, e]; simp; omega
  · rw [split_at hk, e] at hS
    have h1 := get_at (S := S) (l := pre ++ 34 :: E false (x.take k)) (c := x[k]) (r := (E false (x.drop (k + 1)) ++ 34 :: tail)) (by rw [hS]; simp)
    have l1 : (pre ++ 34 :: E false (x.take k)).length = posn false pre x k := by unfold posn; simp; omega
    obtain ⟨a1, b1⟩ := h1
    simp only [l1] at b1
    exact ⟨by omega, b1⟩

theorem round_end {S : ByteArray} {all : Bool} {pre x tail : List UInt8} {k : Nat} (hS : S.data.toList = pre ++ (34 :: (E all x ++ (34 :: tail)))) (hk : k = x.length) :
    ∃ (h1 : posn all pre x k < S.size), S[posn all pre x k] = 34 := by
  have et : x.take k = x := List.take_of_length_le (by omega)
  have h1 := get_at (S := S) (l := pre ++ 34 :: E all (x.take k)) (c := 34) (r := tail) (by rw [hS, et]; simp)
  have l1 : (pre ++ 34 :: E all (x.take k)).length = posn all pre x k := by unfold posn; simp; omega
  obtain ⟨a1, b1⟩ := h1
  simp only [l1] at b1
  exact ⟨by omega, b1⟩

theorem round_start {S : ByteArray} {all : Bool} {pre x tail : List UInt8} (hS : S.data.toList = pre ++ (34 :: (E all x ++ (34 :: tail)))) :
    ∃ (h1 : pre.length < S.size), S[pre.length] = 34 := get_at hS

end Go.Proofs.Qxb6603346a
