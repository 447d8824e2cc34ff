/- THE PLAIN PART of the tokenizer machine: what is to come from each state, and how each round hands it on. No Go in sight. -/
import Derived.Test.Qxb6603462aPlainTag
namespace Go.Proofs.Qxb6603462a

/-- The attributes that are still to come from state s at place p, the current one holding x, the quote q. -/
def come (f : Nat → Int) (n : Nat) (s : Int) (x : At) (q : Int) (p : Nat) : List At :=
  if s = 0 then tagT f n (skipTo tn f n p) else if s = 1 then tagT f n p else if s = 2 then tagN f n x.s x.n p
  else if s = 3 then emit x.s x.n x.e (rv f n p x.v x.ve x.en) (tagT f n) else if s = 4 then emit x.s x.n x.e (rvB f n p) (tagT f n)
  else if s = 5 then emit x.s x.n x.e (rvQ f n x.v q p) (tagT f n) else emit x.s x.n x.e (rvU f n x.v p) (tagT f n)

theorem on_ {L A B total : List At} (h : L ++ A = total) (e : A = B) : L ++ B = total := by rw [← e]; exact h
theorem put_ {L A B total : List At} {y : At} (h : L ++ A = total) (e : A = y :: B) : (L ++ [y]) ++ B = total := by rw [← h, e, List.append_assoc]; rfl
theorem end_ {L A total : List At} (h : L ++ A = total) (e : A = []) : L = total := by rw [e, List.append_nil] at h; exact h
theorem last_ {L A total : List At} {y : At} (h : L ++ A = total) (e : A = [y]) : L ++ [y] = total := by rw [← e]; exact h

variable (f : Nat → Int) (n p : Nat) (x : At) (q : Int)

-- the tag's own name
theorem come0_on (h : p < n) (h1 : tn (f p) = true) : come f n 0 x q p = come f n 0 x q (p + 1) := by
  show tagT f n _ = tagT f n _
  rw [skipTo_yes tn f n p h h1]
theorem come0_stop (h : p < n) (h1 : tn (f p) = false) : come f n 0 x q p = come f n 1 x q p := by
  show tagT f n _ = tagT f n _
  rw [skipTo_no tn f n p h h1]
theorem come0_past (h : n ≤ p) : come f n 0 x q p = [] := by
  show tagT f n _ = _
  rw [skipTo_ge tn f n p h, tagT_past f n p h]
-- ahead of a name
theorem come1_gt (h : p < n) (h1 : (f p == 62) = true) : come f n 1 x q p = [] := tagT_gt f n p h h1
theorem come1_space (h : p < n) (h1 : sp (f p) = true) : come f n 1 x q p = come f n 1 x q (p + 1) := tagT_space f n p h h1
theorem come1_slash (h : p < n) (h1 : (f p == 47) = true) : come f n 1 x q p = come f n 1 x q (p + 1) := tagT_slash f n p h h1
theorem come1_name (h : p < n) (h1 : sp (f p) = false) (h2 : (f p == 62) = false) (h3 : (f p == 47) = false) (e v ve en : Int) : come f n 1 x q p = come f n 2 ⟨back f p, p, e, v, ve, en⟩ q (p + 1) := tagT_name f n p h h1 h2 h3
theorem come1_past (h : n ≤ p) : come f n 1 x q p = [] := tagT_past f n p h
-- in a name
theorem come2_on (h : p < n) (h1 : nmc (f p) = true) : come f n 2 x q p = come f n 2 x q (p + 1) := tagN_on f n p x.s x.n h h1
theorem come2_stop (h : p < n) (h1 : nmc (f p) = false) : come f n 2 x q p = come f n 3 ⟨x.s, x.n, p, p, p, p⟩ q p := tagN_end f n p x.s x.n h h1
theorem come2_past (h : n ≤ p) : come f n 2 x q p = [⟨x.s, x.n, p, p, p, p⟩] := tagN_past f n p x.s x.n h
-- behind a name
theorem come3_slash (h : p < n) (h1 : (f p == 47) = true) : come f n 3 x q p = x :: come f n 1 x q (p + 1) := by
  show emit _ _ _ _ _ = _
  rw [rv_slash f n p _ _ _ h h1, emit_at1]
  rfl
theorem come3_equals (h : p < n) (h1 : (f p == 61) = true) : come f n 3 x q p = come f n 4 x q (p + 1) := by
  show emit _ _ _ _ _ = emit _ _ _ _ _
  rw [rv_equals f n p _ _ _ h h1]
theorem come3_space (h : p < n) (h1 : sp (f p) = true) : come f n 3 x q p = come f n 3 x q (p + 1) := by
  show emit _ _ _ _ _ = emit _ _ _ _ _
  rw [rv_space f n p _ _ _ h h1]
theorem come3_stop (h : p < n) (h1 : (f p == 47) = false) (h2 : (f p == 61) = false) (h3 : sp (f p) = false) : come f n 3 x q p = x :: come f n 1 x q p := by
  show emit _ _ _ _ _ = _
  rw [rv_stop f n p _ _ _ h h1 h2 h3, emit_at]
  rfl
theorem come3_past (h : n ≤ p) : come f n 3 x q p = [x] := by
  show emit _ _ _ _ _ = _
  rw [rv_past f n p _ _ _ h, emit_at, tagT_past f n p h]
-- ahead of a value
theorem come4_gt (h : p < n) (h1 : (f p == 62) = true) : come f n 4 x q p = ⟨x.s, x.n, x.e, p, p, p⟩ :: come f n 1 ⟨x.s, x.n, x.e, p, p, p⟩ q p := by
  show emit _ _ _ _ _ = _
  rw [rvB_gt f n p h h1, emit_at]
  rfl
theorem come4_quote (h : p < n) (h1 : (f p == 34) = true ∨ (f p == 34) = false ∧ (f p == 39) = true) : come f n 4 x q p = come f n 5 ⟨x.s, x.n, x.e, (p : Int) + 1, x.ve, x.en⟩ (f p) (p + 1) := by
  show emit _ _ _ _ _ = emit _ _ _ _ _
  rw [rvB_quote f n p h h1]
theorem come4_space (h : p < n) (h1 : sp (f p) = true) : come f n 4 x q p = come f n 4 x q (p + 1) := by
  show emit _ _ _ _ _ = emit _ _ _ _ _
  rw [rvB_space f n p h h1]
theorem come4_begin (h : p < n) (h1 : (f p == 62) = false) (h2 : (f p == 34) = false) (h3 : (f p == 39) = false) (h4 : sp (f p) = false) : come f n 4 x q p = come f n 6 ⟨x.s, x.n, x.e, p, x.ve, x.en⟩ q (p + 1) := by
  show emit _ _ _ _ _ = emit _ _ _ _ _
  rw [rvB_begin f n p h h1 h2 h3 h4]
theorem come4_past (h : n ≤ p) : come f n 4 x q p = [⟨x.s, x.n, x.e, p, p, p⟩] := by
  show emit _ _ _ _ _ = _
  rw [rvB_past f n p h, emit_at, tagT_past f n p h]
-- in quotes
theorem come5_end (h : p < n) (h1 : (f p == q) = true) : come f n 5 x q p = ⟨x.s, x.n, x.e, x.v, p, (p : Int) + 1⟩ :: come f n 1 ⟨x.s, x.n, x.e, x.v, p, (p : Int) + 1⟩ q (p + 1) := by
  show emit _ _ _ _ _ = _
  rw [rvQ_end f n p _ _ h h1, emit_at1]
  rfl
theorem come5_on (h : p < n) (h1 : (f p == q) = false) : come f n 5 x q p = come f n 5 x q (p + 1) := by
  show emit _ _ _ _ _ = emit _ _ _ _ _
  rw [rvQ_on f n p _ _ h h1]
theorem come5_past (h : p = n) : come f n 5 x q p = [⟨x.s, x.n, x.e, x.v, p, p⟩] := by
  show emit _ _ _ _ _ = _
  rw [rvQ_past f n p _ _ h, emit_at, tagT_past f n p (by omega)]
-- not in quotes
theorem come6_end (h : p < n) (h1 : sp (f p) = true ∨ sp (f p) = false ∧ (f p == 62) = true) : come f n 6 x q p = ⟨x.s, x.n, x.e, x.v, p, p⟩ :: come f n 1 ⟨x.s, x.n, x.e, x.v, p, p⟩ q p := by
  show emit _ _ _ _ _ = _
  rw [rvU_end f n p _ h h1, emit_at]
  rfl
theorem come6_on (h : p < n) (h1 : sp (f p) = false) (h2 : (f p == 62) = false) : come f n 6 x q p = come f n 6 x q (p + 1) := by
  show emit _ _ _ _ _ = emit _ _ _ _ _
  rw [rvU_on f n p _ h h1 h2]
theorem come6_past (h : n ≤ p) : come f n 6 x q p = [⟨x.s, x.n, x.e, x.v, p, p⟩] := by
  show emit _ _ _ _ _ = _
  rw [rvU_past f n p _ h, emit_at, tagT_past f n p h]

end Go.Proofs.Qxb6603462a
