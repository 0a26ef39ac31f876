import Derived.Lib.Strings
namespace Go.Proofs.Qxb6603470a

def blank (c : UInt8) : Bool := c == 32 || c == 9 || c == 11 || c == 12
def quoting (c : UInt8) : Bool := c == 92 || c == 34 || c == 39

def run : List UInt8 → UInt8 → Bool → Bool → List UInt8 → List (List UInt8) → List (List UInt8) × UInt8
  | [], q, _, f, cur, out => if q = 0 then (if f then out ++ [cur] else out, 0) else ([], q)
  | c :: r, q, esc, f, cur, out =>
    if esc then run r q false f (cur ++ (if q = 39 then [92, c] else [c])) out
    else if q ≠ 0 then
      if c = q then run r 0 false f cur out
      else if c = 92 then run r q true f cur out
      else run r q false f (cur ++ [c]) out
    else if blank c then run r 0 false false [] (if f then out ++ [cur] else out)
    else if c = 92 then run r 0 true true cur out
    else if c = 34 ∨ c = 39 then run r c false true cur out
    else run r 0 false true (cur ++ [c]) out

section
variable {c d q : UInt8} {r cur : List UInt8} {out : List (List UInt8)} {f : Bool}

theorem run_nil_open (hq : q ≠ 0) (e : Bool) : run [] q e f cur out = ([], q) := by simp [run, hq]
theorem run_nil_field (e : Bool) : run [] 0 e true cur out = (out ++ [cur], 0) := by simp [run]
theorem run_nil_none (e : Bool) : run [] 0 e false cur out = (out, 0) := by simp [run]

theorem run_blank_out (hb : blank c = true) : run (c :: r) 0 false false [] out = run r 0 false false [] out := by simp [run, hb]
theorem run_blank_in (hb : blank c = true) : run (c :: r) 0 false true cur out = run r 0 false false [] (out ++ [cur]) := by simp [run, hb]
theorem run_enter (hb : blank c = false) : run (c :: r) 0 false false [] out = run (c :: r) 0 false true [] out := by simp [run, hb]
theorem run_plain (hb : blank c = false) (h1 : c ≠ 92) (h2 : c ≠ 34) (h3 : c ≠ 39) : run (c :: r) 0 false f cur out = run r 0 false true (cur ++ [c]) out := by simp [run, hb, h1, h2, h3]
theorem blank92 : blank 92 = false := by decide
theorem blank34 : blank 34 = false := by decide
theorem blank39 : blank 39 = false := by decide
theorem run_back2 : run (92 :: d :: r) 0 false f cur out = run r 0 false true (cur ++ [d]) out := by simp [run, blank92]
theorem run_back1 : run [92] 0 false f cur out = run [] 0 false true cur out := by simp [run, blank92]
theorem run_quote (hc : c = 34 ∨ c = 39) : run (c :: r) 0 false f cur out = run r c false true cur out := by
  rcases hc with rfl | rfl <;> simp [run, blank34, blank39]

theorem run_close (hq : q ≠ 0) : run (q :: r) q false f cur out = run r 0 false f cur out := by simp [run, hq]
theorem run_in_back2 (hq : q ≠ 0) (h9 : q ≠ 92) : run (92 :: d :: r) q false f cur out = run r q false f (cur ++ (if q = 39 then [92, d] else [d])) out := by
  simp [run, hq, Ne.symm h9]
theorem run_in_back1 (hq : q ≠ 0) (h9 : q ≠ 92) : run [92] q false f cur out = run [] q false f (cur ++ [92]) out := by
  simp [run, hq, Ne.symm h9]
theorem run_in_plain (hq : q ≠ 0) (h1 : c ≠ q) (h2 : c ≠ 92) : run (c :: r) q false f cur out = run r q false f (cur ++ [c]) out := by simp [run, hq, h1, h2]
end

theorem drop_cons {s : ByteArray} {k : Nat} (h : k < s.size) : s.data.toList.drop k = s[k] :: s.data.toList.drop (k + 1) := by
  rw [List.drop_eq_getElem_cons (by simpa using h)]; rfl
theorem drop_end {s : ByteArray} {k : Nat} (h : s.size ≤ k) : s.data.toList.drop k = [] := by
  apply List.drop_eq_nil_of_le; rw [Array.length_toList]; exact h

def sub (s : ByteArray) (a b : Nat) : List UInt8 := (s.data.toList.take b).drop a
theorem sub_self (s : ByteArray) (a : Nat) : sub s a a = [] := by
  unfold sub; apply List.drop_eq_nil_of_le; exact List.length_take_le _ _
theorem sub_snoc {s : ByteArray} {a k : Nat} (ha : a ≤ k) (h : k < s.size) : sub s a (k + 1) = sub s a k ++ [s[k]] := by
  unfold sub
  rw [List.take_succ_eq_append_getElem (by simpa using h), List.drop_append_of_le_length]
  · rfl
  · rw [List.length_take, Array.length_toList]
    have : s.data.size = s.size := rfl
    omega
theorem sub_len (s : ByteArray) (a b : Nat) : (sub s a b).length ≤ b := by
  unfold sub; rw [List.length_drop, List.length_take]; omega

section
variable {s : ByteArray} {k : Nat} {R : List (List UInt8) × UInt8} {out : List (List UInt8)} {cur : List UInt8} {q : UInt8}

theorem t_blank (h : R = run (s.data.toList.drop k) 0 false false [] out) (hk : k < s.size) (hb : blank s[k] = true) : R = run (s.data.toList.drop (k + 1)) 0 false false [] out := by
  rw [h, drop_cons hk, run_blank_out hb]
theorem t_enter (h : R = run (s.data.toList.drop k) 0 false false [] out) (hk : k < s.size) (hb : blank s[k] = false) : R = run (s.data.toList.drop k) 0 false true [] out := by
  rw [h, drop_cons hk, run_enter hb]
theorem t_plain (h : R = run (s.data.toList.drop k) 0 false true cur out) (hk : k < s.size) (hb : blank s[k] = false) (hq : quoting s[k] = false) : R = run (s.data.toList.drop (k + 1)) 0 false true (cur ++ [s[k]]) out := by
  simp only [quoting, Bool.or_eq_false_iff, beq_eq_false_iff_ne] at hq
  rw [h, drop_cons hk, run_plain hb hq.1.1 hq.1.2 hq.2]
theorem t_field (h : R = run (s.data.toList.drop k) 0 false true cur out) (he : s.size ≤ k ∨ ∃ hk : k < s.size, blank s[k] = true) : R = run (s.data.toList.drop k) 0 false false [] (out ++ [cur]) := by
  rcases he with he | ⟨hk, hb⟩
  · rw [h, drop_end he, run_nil_field, run_nil_none]
  · rw [h, drop_cons hk, run_blank_in hb, run_blank_out hb]
theorem t_back2 (h : R = run (s.data.toList.drop k) 0 false true cur out) (hk : k < s.size) (hc : s[k] = 92) (hk2 : k + 1 < s.size) : R = run (s.data.toList.drop (k + 1 + 1)) 0 false true (cur ++ [s[k + 1]]) out := by
  rw [h, drop_cons hk, drop_cons hk2, hc, run_back2]
theorem t_back1 (h : R = run (s.data.toList.drop k) 0 false true cur out) (hk : k < s.size) (hc : s[k] = 92) (hk2 : ¬ k + 1 < s.size) : R = run (s.data.toList.drop (k + 1)) 0 false true cur out := by
  rw [h, drop_cons hk, drop_end (by omega), hc, run_back1]
theorem t_quote (h : R = run (s.data.toList.drop k) 0 false true cur out) (hk : k < s.size) (hc : s[k] = 34 ∨ s[k] = 39) : R = run (s.data.toList.drop (k + 1)) s[k] false true cur out := by
  rw [h, drop_cons hk, run_quote hc]
theorem t_close (h : R = run (s.data.toList.drop k) q false true cur out) (hq : q ≠ 0) (hk : k < s.size) (hc : s[k] = q) : R = run (s.data.toList.drop (k + 1)) 0 false true cur out := by
  rw [h, drop_cons hk, hc, run_close hq]
theorem t_open (h : R = run (s.data.toList.drop k) q false true cur out) (hq : q ≠ 0) (hk : s.size ≤ k) : R = ([], q) := by
  rw [h, drop_end hk, run_nil_open hq]
theorem t_in_back2 (h : R = run (s.data.toList.drop k) q false true cur out) (hq : q ≠ 0) (h9 : q ≠ 92) (hk : k < s.size) (hc : s[k] = 92) (hk2 : k + 1 < s.size) :
    R = run (s.data.toList.drop (k + 1 + 1)) q false true (cur ++ (if q = 39 then [92, s[k + 1]] else [s[k + 1]])) out := by
  rw [h, drop_cons hk, drop_cons hk2, hc, run_in_back2 hq h9]
theorem t_in_back1 (h : R = run (s.data.toList.drop k) q false true cur out) (hq : q ≠ 0) (h9 : q ≠ 92) (hk : k < s.size) (hc : s[k] = 92) (hk2 : ¬ k + 1 < s.size) :
    R = run (s.data.toList.drop (k + 1)) q false true (cur ++ [s[k]]) out := by
  rw [h, drop_cons hk, drop_end (by omega), hc, run_in_back1 hq h9]
theorem t_in_plain (h : R = run (s.data.toList.drop k) q false true cur out) (hq : q ≠ 0) (hk : k < s.size) (h1 : s[k] ≠ q) (h2 : s[k] ≠ 92) : R = run (s.data.toList.drop (k + 1)) q false true (cur ++ [s[k]]) out := by
  rw [h, drop_cons hk, run_in_plain hq h1 h2]
theorem t_done (h : R = run (s.data.toList.drop k) 0 false false [] out) (hk : s.size ≤ k) : R = (out, 0) := by
  rw [h, drop_end hk, run_nil_none]
end

def esc (c : UInt8) : List UInt8 := if c = 34 ∨ c = 92 then [92, c] else [c]
def E (l : List UInt8) : List UInt8 := l.flatMap esc
def qt (l : List UInt8) : List UInt8 := 34 :: (E l ++ [34])
def qj : List (List UInt8) → List UInt8
  | [] => []
  | [x] => qt x
  | x :: y :: r => qt x ++ 32 :: qj (y :: r)

theorem E_snoc (l : List UInt8) (c : UInt8) : E (l ++ [c]) = E l ++ esc c := by simp [E]
theorem E_cons (l : List UInt8) (c : UInt8) : E (c :: l) = esc c ++ E l := by simp [E]
theorem esc_len (c : UInt8) : (esc c).length ≤ 2 := by unfold esc; split <;> simp
theorem E_len (l : List UInt8) : (E l).length ≤ 2 * l.length := by
  induction l with
  | nil => simp [E]
  | cons c l ih => rw [E_cons]; have := esc_len c; simp; omega

theorem run_E (x r cur : List UInt8) (out : List (List UInt8)) : run (E x ++ 34 :: r) 34 false true cur out = run r 0 false true (cur ++ x) out := by
  induction x generalizing cur with
  | nil => simp [E, run_close]
  | cons c x ih =>
    rw [E_cons]
    unfold esc
    split
    · rename_i h
      show run (92 :: c :: (E x ++ 34 :: r)) 34 false true cur out = _
      rw [run_in_back2 (by decide) (by decide), if_neg (by decide), ih]; simp
    · rename_i h
      show run (c :: (E x ++ 34 :: r)) 34 false true cur out = _
      rw [run_in_plain (by decide) (fun e => h (.inl e)) (fun e => h (.inr e)), ih]; simp

theorem run_qt (x r : List UInt8) (out : List (List UInt8)) : run (qt x ++ r) 0 false false [] out = run r 0 false true x out := by
  show run (34 :: (E x ++ [34] ++ r)) 0 false false [] out = _
  rw [run_quote (.inl rfl)]
  have := run_E x r [] out
  simpa using this

theorem run_qj (fs : List (List UInt8)) (out : List (List UInt8)) : run (qj fs) 0 false false [] out = (out ++ fs, 0) := by
  induction fs generalizing out with
  | nil => simp [qj, run]
  | cons x l ih =>
    cases l with
    | nil =>
      have := run_qt x [] out
      simp only [List.append_nil] at this
      rw [qj, this, run_nil_field]
    | cons y r =>
      rw [qj, run_qt, run_blank_in (by decide), ih]
      simp

theorem qj_snoc (fs : List (List UInt8)) (x : List UInt8) : qj (fs ++ [x]) = if fs = [] then qt x else qj fs ++ 32 :: qt x := by
  induction fs with
  | nil => simp [qj]
  | cons a l ih =>
    cases l with
    | nil => simp [qj]
    | cons b r =>
      simp only [List.cons_append] at ih ⊢
      rw [qj, ih]
      simp [qj]

end Go.Proofs.Qxb6603470a
