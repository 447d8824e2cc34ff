/-
  THE PLAIN PART (no Go in sight): what the functions of the seat's road compute, over a row of bytes given as a function 'f' of the index and a length 'n'.
-/
namespace Go.Proofs.Qxb6603462a

/-- HTML white space within a tag. -/
def sp (c : Int) : Bool := c == 32 || c == 9 || c == 10 || c == 12 || c == 13

/-- From index i, with 'fuel' bytes to go: the first index whose byte does not meet p. -/
def run (p : Int → Bool) (f : Nat → Int) : Nat → Nat → Nat
  | 0, i => i
  | k + 1, i => if p (f i) = true then run p f k (i + 1) else i

/-- The first index from i on, below n, whose byte does not meet p (n, or i itself beyond it, where there is none). -/
def skipTo (p : Int → Bool) (f : Nat → Int) (n i : Nat) : Nat := run p f (n - i) i

theorem skipTo_ge (p : Int → Bool) (f : Nat → Int) (n i : Nat) (h : n ≤ i) : skipTo p f n i = i := by
  unfold skipTo
  rw [Nat.sub_eq_zero_of_le h]
  rfl

theorem skipTo_yes (p : Int → Bool) (f : Nat → Int) (n i : Nat) (h : i < n) (hp : p (f i) = true) : skipTo p f n i = skipTo p f n (i + 1) := by
  unfold skipTo
  have e : n - i = (n - (i + 1)) + 1 := by omega
  rw [e, run, if_pos hp]

theorem skipTo_no (p : Int → Bool) (f : Nat → Int) (n i : Nat) (h : i < n) (hp : p (f i) = false) : skipTo p f n i = i := by
  unfold skipTo
  have e : n - i = (n - (i + 1)) + 1 := by omega
  rw [e, run, if_neg (by simp [hp])]


/-- A byte of an unquoted value. -/
def un (c : Int) : Bool := !sp c && c != 62
/-- A byte of a value in quotes q. -/
def nq (q c : Int) : Bool := c != q

/-- WHAT readValue ANSWERS, where the name ends at e and the attribute bears v, ve, en: where to go on, and the three fields behind the call. -/
def rv (f : Nat → Int) (n e : Nat) (v ve en : Int) : Int × Int × Int × Int :=
  let k := skipTo sp f n e
  if n ≤ k then ((k : Int), v, ve, en)
  else if f k = 47 then ((k : Int) + 1, v, ve, en)
  else if f k ≠ 61 then ((k : Int), v, ve, en)
  else
    let m := skipTo sp f n (k + 1)
    if n ≤ m then ((m : Int), (m : Int), (m : Int), (m : Int))
    else if f m = 62 then ((m : Int), (m : Int), (m : Int), (m : Int))
    else if f m = 34 ∨ f m = 39 then
      let z := skipTo (nq (f m)) f n (m + 1)
      (((min (z + 1) n : Nat) : Int), (m : Int) + 1, (z : Int), ((min (z + 1) n : Nat) : Int))
    else
      let z := skipTo un f n m
      ((z : Int), (m : Int), (z : Int), (z : Int))

theorem run_le (p : Int → Bool) (f : Nat → Int) : ∀ k i, i ≤ run p f k i ∧ run p f k i ≤ i + k
  | 0, i => ⟨Nat.le_refl _, Nat.le_refl _⟩
  | k + 1, i => by
    have h := run_le p f k (i + 1)
    unfold run
    split <;> omega

theorem skipTo_lo (p : Int → Bool) (f : Nat → Int) (n i : Nat) : i ≤ skipTo p f n i := (run_le p f (n - i) i).1
theorem skipTo_hi (p : Int → Bool) (f : Nat → Int) (n i : Nat) (h : i ≤ n) : skipTo p f n i ≤ n := by
  have := (run_le p f (n - i) i).2
  unfold skipTo
  omega

end Go.Proofs.Qxb6603462a
