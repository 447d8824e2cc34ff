/- THE PLAIN LAW of FnReadValueMatchesStateMachine: what is still to come from each state of the machine, in the words of 'rv'. No Go in sight. -/
import Derived.Test.Qxb6603462aPlain
namespace Go.Proofs.Qxb6603462a

/-- The rest of a value in quotes q that begins at vs. -/
def rvQ (f : Nat → Int) (n : Nat) (vs q : Int) (p : Nat) : Int × Int × Int × Int :=
  let z := skipTo (nq q) f n p
  (((min (z + 1) n : Nat) : Int), vs, (z : Int), ((min (z + 1) n : Nat) : Int))
/-- The rest of an unquoted value that begins at vs. -/
def rvU (f : Nat → Int) (n : Nat) (vs : Int) (p : Nat) : Int × Int × Int × Int :=
  let z := skipTo un f n p
  ((z : Int), vs, (z : Int), (z : Int))
/-- Behind the '='. -/
def rvB (f : Nat → Int) (n p : Nat) : Int × Int × Int × Int :=
  let m := skipTo sp f n p
  if n ≤ m then ((m : Int), (m : Int), (m : Int), (m : Int))
  else if f m = 62 then ((m : Int), (m : Int), (m : Int), (m : Int))
  else if f m = 34 ∨ f m = 39 then rvQ f n ((m : Int) + 1) (f m) (m + 1)
  else rvU f n (m : Int) m

theorem rv_eq (f : Nat → Int) (n e : Nat) (v ve en : Int) : rv f n e v ve en =
    if n ≤ skipTo sp f n e then (((skipTo sp f n e : Nat) : Int), v, ve, en)
    else if f (skipTo sp f n e) = 47 then (((skipTo sp f n e : Nat) : Int) + 1, v, ve, en)
    else if f (skipTo sp f n e) ≠ 61 then (((skipTo sp f n e : Nat) : Int), v, ve, en)
    else rvB f n (skipTo sp f n e + 1) := rfl

theorem sp_of {c d : Int} (h : (c == d) = true) (hd : sp d = false) : sp c = false := by
  have : c = d := by simpa using h
  rw [this]; exact hd

-- state 0
theorem rv_past (f : Nat → Int) (n p : Nat) (v ve en : Int) (h : n ≤ p) : rv f n p v ve en = ((p : Int), v, ve, en) := by
  rw [rv_eq, skipTo_ge sp f n p h, if_pos h]
theorem rv_slash (f : Nat → Int) (n p : Nat) (v ve en : Int) (h : p < n) (h1 : (f p == 47) = true) : rv f n p v ve en = ((p : Int) + 1, v, ve, en) := by
  rw [rv_eq, skipTo_no sp f n p h (sp_of h1 rfl), if_neg (by omega), if_pos (by simpa using h1)]
theorem rv_equals (f : Nat → Int) (n p : Nat) (v ve en : Int) (h : p < n) (h1 : (f p == 61) = true) : rv f n p v ve en = rvB f n (p + 1) := by
  have h1' : f p = 61 := by simpa using h1
  rw [rv_eq, skipTo_no sp f n p h (sp_of h1 rfl), if_neg (by omega), if_neg (by rw [h1']; decide), if_neg (by rw [h1']; decide)]
theorem rv_space (f : Nat → Int) (n p : Nat) (v ve en : Int) (h : p < n) (h1 : sp (f p) = true) : rv f n p v ve en = rv f n (p + 1) v ve en := by
  rw [rv_eq, rv_eq, skipTo_yes sp f n p h h1]
theorem rv_stop (f : Nat → Int) (n p : Nat) (v ve en : Int) (h : p < n) (h1 : (f p == 47) = false) (h2 : (f p == 61) = false) (h3 : sp (f p) = false) : rv f n p v ve en = ((p : Int), v, ve, en) := by
  rw [rv_eq, skipTo_no sp f n p h h3, if_neg (by omega), if_neg (by simpa using h1), if_pos (by simpa using h2)]

-- state 1
theorem rvB_past (f : Nat → Int) (n p : Nat) (h : n ≤ p) : rvB f n p = ((p : Int), (p : Int), (p : Int), (p : Int)) := by
  unfold rvB
  rw [skipTo_ge sp f n p h, if_pos h]
theorem rvB_gt (f : Nat → Int) (n p : Nat) (h : p < n) (h1 : (f p == 62) = true) : rvB f n p = ((p : Int), (p : Int), (p : Int), (p : Int)) := by
  unfold rvB
  rw [skipTo_no sp f n p h (sp_of h1 rfl), if_neg (by omega), if_pos (by simpa using h1)]
theorem rvB_quote (f : Nat → Int) (n p : Nat) (h : p < n) (h1 : (f p == 34) = true ∨ (f p == 34) = false ∧ (f p == 39) = true) : rvB f n p = rvQ f n ((p : Int) + 1) (f p) (p + 1) := by
  have h2 : f p = 34 ∨ f p = 39 := by
    rcases h1 with h | ⟨_, h⟩
    · exact .inl (by simpa using h)
    · exact .inr (by simpa using h)
  have h3 : sp (f p) = false := by rcases h2 with h | h <;> rw [h] <;> rfl
  unfold rvB
  rw [skipTo_no sp f n p h h3, if_neg (by omega), if_neg (by rcases h2 with h | h <;> rw [h] <;> decide), if_pos h2]
theorem rvB_space (f : Nat → Int) (n p : Nat) (h : p < n) (h1 : sp (f p) = true) : rvB f n p = rvB f n (p + 1) := by
  unfold rvB
  rw [skipTo_yes sp f n p h h1]
theorem rvB_begin (f : Nat → Int) (n p : Nat) (h : p < n) (h1 : (f p == 62) = false) (h2 : (f p == 34) = false) (h3 : (f p == 39) = false) (h4 : sp (f p) = false) : rvB f n p = rvU f n (p : Int) (p + 1) := by
  have hu : un (f p) = true := by
    unfold un
    rw [h4]
    simpa using h1
  unfold rvB
  rw [skipTo_no sp f n p h h4, if_neg (by omega), if_neg (by simpa using h1), if_neg (by simp at h2 h3; simp [h2, h3])]
  unfold rvU
  rw [skipTo_yes un f n p h hu]

-- state 2
theorem rvQ_past (f : Nat → Int) (n p : Nat) (vs q : Int) (h : p = n) : rvQ f n vs q p = ((p : Int), vs, (p : Int), (p : Int)) := by
  unfold rvQ
  rw [skipTo_ge (nq q) f n p (by omega)]
  dsimp only
  rw [Nat.min_eq_right (by omega), h]
theorem rvQ_end (f : Nat → Int) (n p : Nat) (vs q : Int) (h : p < n) (h1 : (f p == q) = true) : rvQ f n vs q p = ((p : Int) + 1, vs, (p : Int), (p : Int) + 1) := by
  unfold rvQ
  rw [skipTo_no (nq q) f n p h (by unfold nq; simpa using h1)]
  dsimp only
  rw [Nat.min_eq_left (by omega)]
  rfl
theorem rvQ_on (f : Nat → Int) (n p : Nat) (vs q : Int) (h : p < n) (h1 : (f p == q) = false) : rvQ f n vs q p = rvQ f n vs q (p + 1) := by
  unfold rvQ
  rw [skipTo_yes (nq q) f n p h (by unfold nq; simpa using h1)]

-- state 3
theorem rvU_past (f : Nat → Int) (n p : Nat) (vs : Int) (h : n ≤ p) : rvU f n vs p = ((p : Int), vs, (p : Int), (p : Int)) := by
  unfold rvU
  rw [skipTo_ge un f n p h]
theorem rvU_end (f : Nat → Int) (n p : Nat) (vs : Int) (h : p < n) (h1 : sp (f p) = true ∨ sp (f p) = false ∧ (f p == 62) = true) : rvU f n vs p = ((p : Int), vs, (p : Int), (p : Int)) := by
  unfold rvU
  rw [skipTo_no un f n p h]
  unfold un
  rcases h1 with h | ⟨h, h'⟩
  · rw [h]; rfl
  · rw [h]; simpa using h'
theorem rvU_on (f : Nat → Int) (n p : Nat) (vs : Int) (h : p < n) (h1 : sp (f p) = false) (h2 : (f p == 62) = false) : rvU f n vs p = rvU f n vs (p + 1) := by
  unfold rvU
  rw [skipTo_yes un f n p h]
  unfold un
  rw [h1]
  simpa using h2

end Go.Proofs.Qxb6603462a
