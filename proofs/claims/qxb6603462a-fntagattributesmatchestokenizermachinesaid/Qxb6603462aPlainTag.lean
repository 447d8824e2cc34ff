/- THE PLAIN PART of FnTagAttributesMatchesTokenizerMachine: the attributes that are still to come from a place, and from each state of the machine. No Go in sight. -/
import Derived.Test.Qxb6603462aPlainMachine
import Derived.Test.Qxb6603462aPlainStays
namespace Go.Proofs.Qxb6603462a

/-- One attribute: Start, Name, NameEnd, Value, ValueEnd, End. -/
structure At where
  s : Int
  n : Int
  e : Int
  v : Int
  ve : Int
  en : Int

/-- A byte of a name, behind its first. -/
def nmc (c : Int) : Bool := !sp c && c != 47 && c != 62 && c != 61
/-- A byte of the tag's own name. -/
def tn (c : Int) : Bool := !sp c && c != 47 && c != 62
/-- Where the white space that ends at k begins. -/
def back (f : Nat → Int) : Nat → Nat
  | 0 => 0
  | k + 1 => if sp (f k) = true then back f k else k + 1

/-- The attribute whose value's reading answered r, and what comes behind it by 'tl'. -/
def emit (s nm e : Int) (r : Int × Int × Int × Int) (tl : Nat → List At) : List At := ⟨s, nm, e, r.2.1, r.2.2.1, r.2.2.2⟩ :: tl r.1.toNat

def tagGo (f : Nat → Int) (n : Nat) : Nat → Nat → List At
  | 0, _ => []
  | m + 1, i =>
    if n ≤ skipTo sp f n i then []
    else if f (skipTo sp f n i) = 62 then []
    else if f (skipTo sp f n i) = 47 then tagGo f n m (skipTo sp f n i + 1)
    else emit (back f (skipTo sp f n i)) (skipTo sp f n i) (skipTo nmc f n (skipTo sp f n i + 1)) (rv f n (skipTo nmc f n (skipTo sp f n i + 1)) (skipTo nmc f n (skipTo sp f n i + 1)) (skipTo nmc f n (skipTo sp f n i + 1)) (skipTo nmc f n (skipTo sp f n i + 1))) (tagGo f n m)

/-- The attributes that are still to come from place i. -/
def tagT (f : Nat → Int) (n i : Nat) : List At := tagGo f n (n - i) i

theorem rv_next (f : Nat → Int) (n e : Nat) (he : e ≤ n) (v ve en : Int) : ∃ N : Nat, (rv f n e v ve en).1 = (N : Int) ∧ e ≤ N ∧ N ≤ n := by
  obtain ⟨N, V, VE, EN, h, h1, h2, _⟩ := rv_between f n e he v ve en
  exact ⟨N, by rw [h], h1, h2⟩

theorem emit_congr {s nm e : Int} {r : Int × Int × Int × Int} {t1 t2 : Nat → List At} (h : t1 r.1.toNat = t2 r.1.toNat) : emit s nm e r t1 = emit s nm e r t2 := by
  unfold emit
  rw [h]

theorem tagGo_past (f : Nat → Int) (n m i : Nat) (h : n ≤ i) : tagGo f n m i = [] := by
  cases m with
  | zero => rfl
  | succ m => rw [tagGo, skipTo_ge sp f n i h, if_pos h]

theorem tagGo_fuel (f : Nat → Int) (n : Nat) : ∀ d m1 m2 i, n - i ≤ d → n - i ≤ m1 → n - i ≤ m2 → tagGo f n m1 i = tagGo f n m2 i := by
  intro d
  induction d with
  | zero =>
    intro m1 m2 i h _ _
    rw [tagGo_past f n m1 i (by omega), tagGo_past f n m2 i (by omega)]
  | succ d ih =>
    intro m1 m2 i h h1 h2
    by_cases hi : n ≤ i
    · rw [tagGo_past f n m1 i hi, tagGo_past f n m2 i hi]
    · obtain ⟨m1, rfl⟩ : ∃ m, m1 = m + 1 := ⟨m1 - 1, by omega⟩
      obtain ⟨m2, rfl⟩ : ∃ m, m2 = m + 1 := ⟨m2 - 1, by omega⟩
      have g := skipTo_lo sp f n i
      rw [tagGo, tagGo]
      generalize skipTo sp f n i = k at *
      by_cases h3 : n ≤ k
      · rw [if_pos h3, if_pos h3]
      rw [if_neg h3, if_neg h3]
      by_cases h4 : f k = 62
      · rw [if_pos h4, if_pos h4]
      rw [if_neg h4, if_neg h4]
      by_cases h5 : f k = 47
      · rw [if_pos h5, if_pos h5]
        exact ih m1 m2 (k + 1) (by omega) (by omega) (by omega)
      rw [if_neg h5, if_neg h5]
      have g2 := skipTo_lo nmc f n (k + 1)
      have l2 := skipTo_hi nmc f n (k + 1) (by omega)
      generalize skipTo nmc f n (k + 1) = j at *
      obtain ⟨N, hN, n1, n2⟩ := rv_next f n j l2 j j j
      refine emit_congr ?_
      rw [hN, Int.toNat_natCast]
      exact ih m1 m2 N (by omega) (by omega) (by omega)

theorem tagT_eq (f : Nat → Int) (n i : Nat) : tagT f n i =
    if n ≤ skipTo sp f n i then []
    else if f (skipTo sp f n i) = 62 then []
    else if f (skipTo sp f n i) = 47 then tagT f n (skipTo sp f n i + 1)
    else emit (back f (skipTo sp f n i)) (skipTo sp f n i) (skipTo nmc f n (skipTo sp f n i + 1)) (rv f n (skipTo nmc f n (skipTo sp f n i + 1)) (skipTo nmc f n (skipTo sp f n i + 1)) (skipTo nmc f n (skipTo sp f n i + 1)) (skipTo nmc f n (skipTo sp f n i + 1))) (tagT f n) := by
  by_cases hi : n ≤ i
  · unfold tagT
    rw [tagGo_past f n _ i hi, skipTo_ge sp f n i hi, if_pos hi]
  · have e : n - i = (n - (i + 1)) + 1 := by omega
    have g := skipTo_lo sp f n i
    conv => lhs; unfold tagT; rw [e, tagGo]
    generalize skipTo sp f n i = k at *
    by_cases h3 : n ≤ k
    · rw [if_pos h3, if_pos h3]
    rw [if_neg h3, if_neg h3]
    by_cases h4 : f k = 62
    · rw [if_pos h4, if_pos h4]
    rw [if_neg h4, if_neg h4]
    by_cases h5 : f k = 47
    · rw [if_pos h5, if_pos h5]
      exact tagGo_fuel f n _ _ _ (k + 1) (Nat.le_refl _) (by omega) (by omega)
    rw [if_neg h5, if_neg h5]
    have g2 := skipTo_lo nmc f n (k + 1)
    have l2 := skipTo_hi nmc f n (k + 1) (by omega)
    generalize skipTo nmc f n (k + 1) = j at *
    obtain ⟨N, hN, n1, n2⟩ := rv_next f n j l2 j j j
    refine emit_congr ?_
    rw [hN, Int.toNat_natCast]
    exact tagGo_fuel f n _ _ _ N (Nat.le_refl _) (by omega) (by omega)

/-! ### from the state 'before a name' -/
theorem tagT_past (f : Nat → Int) (n p : Nat) (h : n ≤ p) : tagT f n p = [] := tagGo_past f n _ p h
theorem tagT_gt (f : Nat → Int) (n p : Nat) (h : p < n) (h1 : (f p == 62) = true) : tagT f n p = [] := by
  rw [tagT_eq, skipTo_no sp f n p h (sp_of h1 rfl), if_neg (by omega), if_pos (by simpa using h1)]
theorem tagT_space (f : Nat → Int) (n p : Nat) (h : p < n) (h1 : sp (f p) = true) : tagT f n p = tagT f n (p + 1) := by
  rw [tagT_eq f n p, tagT_eq f n (p + 1), skipTo_yes sp f n p h h1]
theorem tagT_slash (f : Nat → Int) (n p : Nat) (h : p < n) (h1 : (f p == 47) = true) : tagT f n p = tagT f n (p + 1) := by
  have h1' : f p = 47 := by simpa using h1
  rw [tagT_eq f n p, skipTo_no sp f n p h (sp_of h1 rfl), if_neg (by omega), if_neg (by rw [h1']; decide), if_pos h1']

/-- From inside a name that begins at nm. -/
def tagN (f : Nat → Int) (n : Nat) (s nm : Int) (p : Nat) : List At := emit s nm (skipTo nmc f n p) (rv f n (skipTo nmc f n p) (skipTo nmc f n p) (skipTo nmc f n p) (skipTo nmc f n p)) (tagT f n)

theorem tagT_name (f : Nat → Int) (n p : Nat) (h : p < n) (h1 : sp (f p) = false) (h2 : (f p == 62) = false) (h3 : (f p == 47) = false) : tagT f n p = tagN f n (back f p) p (p + 1) := by
  rw [tagT_eq f n p, skipTo_no sp f n p h h1, if_neg (by omega), if_neg (by simpa using h2), if_neg (by simpa using h3)]
  rfl

theorem tagN_past (f : Nat → Int) (n p : Nat) (s nm : Int) (h : n ≤ p) : tagN f n s nm p = [⟨s, nm, p, p, p, p⟩] := by
  unfold tagN
  rw [skipTo_ge nmc f n p h, rv_past f n p _ _ _ h]
  unfold emit
  dsimp only
  rw [Int.toNat_natCast, tagT_past f n p h]
theorem tagN_on (f : Nat → Int) (n p : Nat) (s nm : Int) (h : p < n) (h1 : nmc (f p) = true) : tagN f n s nm p = tagN f n s nm (p + 1) := by
  unfold tagN
  rw [skipTo_yes nmc f n p h h1]
theorem tagN_end (f : Nat → Int) (n p : Nat) (s nm : Int) (h : p < n) (h1 : nmc (f p) = false) : tagN f n s nm p = emit s nm p (rv f n p p p p) (tagT f n) := by
  unfold tagN
  rw [skipTo_no nmc f n p h h1]

/-! ### what an emission at the end of the text leaves -/
theorem emit_at (f : Nat → Int) (n p : Nat) (s nm e a b c : Int) : emit s nm e ((p : Int), a, b, c) (tagT f n) = ⟨s, nm, e, a, b, c⟩ :: tagT f n p := by
  unfold emit
  dsimp only
  rw [Int.toNat_natCast]
theorem emit_at1 (f : Nat → Int) (n p : Nat) (s nm e a b c : Int) : emit s nm e ((p : Int) + 1, a, b, c) (tagT f n) = ⟨s, nm, e, a, b, c⟩ :: tagT f n (p + 1) := emit_at f n (p + 1) s nm e a b c

theorem back_space (f : Nat → Int) (p : Nat) (h : sp (f p) = true) : back f (p + 1) = back f p := if_pos h
theorem back_other (f : Nat → Int) (p : Nat) (h : sp (f p) = false) : back f (p + 1) = p + 1 := if_neg (by simp [h])
theorem back_le (f : Nat → Int) : ∀ p, back f p ≤ p
  | 0 => Nat.le_refl _
  | p + 1 => by
    have := back_le f p
    unfold back
    split <;> omega

end Go.Proofs.Qxb6603462a
