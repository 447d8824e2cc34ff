/- THE PLAIN LAW of FnReadValueLooksOnlyFromNameEnd: no Go in sight. -/
import Derived.Test.Qxb6603462aPlain
namespace Go.Proofs.Qxb6603462a

theorem run_shift (p : Int → Bool) (f : Nat → Int) (e : Nat) : ∀ k i, e + run p (fun i => f (e + i)) k i = run p f k (e + i)
  | 0, _ => rfl
  | k + 1, i => by
    unfold run
    have h := run_shift p f e k (i + 1)
    split
    · exact h
    · rfl

theorem skipTo_shift (p : Int → Bool) (f : Nat → Int) (n e i : Nat) : e + skipTo p (fun i => f (e + i)) (n - e) i = skipTo p f n (e + i) := by
  unfold skipTo
  rw [run_shift, Nat.sub_sub]

theorem rv_shift (f : Nat → Int) (n e : Nat) (he : e ≤ n) (v ve en : Int) :
    ∃ (N tN : Nat) (V VE EN tV tVE tEN : Int), rv f n e v ve en = ((N : Int), V, VE, EN) ∧ rv (fun i => f (e + i)) (n - e) 0 (-1) (-1) (-1) = ((tN : Int), tV, tVE, tEN) ∧ N = e + tN ∧ tN ≤ n ∧
      ((tV = -1 ∧ tVE = -1 ∧ tEN = -1 ∧ V = v ∧ VE = ve ∧ EN = en) ∨
       ∃ a b c : Nat, a ≤ n ∧ b ≤ n ∧ c ≤ n ∧ tV = a ∧ tVE = b ∧ tEN = c ∧ V = (e : Int) + a ∧ VE = (e : Int) + b ∧ EN = (e : Int) + c) := by
  have s1 := skipTo_shift sp f n e 0
  have l1 := skipTo_hi sp f n e he
  rw [Nat.add_zero] at s1
  obtain ⟨k, hk⟩ : ∃ k, skipTo sp (fun i => f (e + i)) (n - e) 0 = k := ⟨_, rfl⟩
  rw [hk] at s1
  rw [← s1] at l1
  unfold rv
  rw [hk, ← s1]
  by_cases h1 : n ≤ e + k
  · rw [if_pos h1, if_pos (show n - e ≤ k by omega)]
    exact ⟨e + k, k, _, _, _, _, _, _, rfl, rfl, rfl, by omega, .inl ⟨rfl, rfl, rfl, rfl, rfl, rfl⟩⟩
  rw [if_neg h1, if_neg (show ¬ n - e ≤ k by omega)]
  by_cases h2 : f (e + k) = 47
  · rw [if_pos h2, if_pos h2]
    exact ⟨e + k + 1, k + 1, _, _, _, _, _, _, rfl, rfl, by omega, by omega, .inl ⟨rfl, rfl, rfl, rfl, rfl, rfl⟩⟩
  rw [if_neg h2, if_neg h2]
  by_cases h3 : f (e + k) ≠ 61
  · rw [if_pos h3, if_pos h3]
    exact ⟨e + k, k, _, _, _, _, _, _, rfl, rfl, rfl, by omega, .inl ⟨rfl, rfl, rfl, rfl, rfl, rfl⟩⟩
  rw [if_neg h3, if_neg h3]
  have s2 := skipTo_shift sp f n e (k + 1)
  have l2 := skipTo_hi sp f n (e + (k + 1)) (by omega)
  obtain ⟨m, hm⟩ : ∃ m, skipTo sp (fun i => f (e + i)) (n - e) (k + 1) = m := ⟨_, rfl⟩
  rw [hm] at s2
  rw [← s2] at l2
  rw [hm, show e + k + 1 = e + (k + 1) from rfl, ← s2]
  by_cases h4 : n ≤ e + m
  · rw [if_pos h4, if_pos (show n - e ≤ m by omega)]
    exact ⟨e + m, m, _, _, _, _, _, _, rfl, rfl, rfl, by omega, .inr ⟨m, m, m, by omega, by omega, by omega, rfl, rfl, rfl, by omega, by omega, by omega⟩⟩
  rw [if_neg h4, if_neg (show ¬ n - e ≤ m by omega)]
  by_cases h5 : f (e + m) = 62
  · rw [if_pos h5, if_pos h5]
    exact ⟨e + m, m, _, _, _, _, _, _, rfl, rfl, rfl, by omega, .inr ⟨m, m, m, by omega, by omega, by omega, rfl, rfl, rfl, by omega, by omega, by omega⟩⟩
  rw [if_neg h5, if_neg h5]
  by_cases h6 : f (e + m) = 34 ∨ f (e + m) = 39
  · rw [if_pos h6, if_pos h6]
    have s3 := skipTo_shift (nq (f (e + m))) f n e (m + 1)
    have l3 := skipTo_hi (nq (f (e + m))) f n (e + (m + 1)) (by omega)
    obtain ⟨z, hz⟩ : ∃ z, skipTo (nq (f (e + m))) (fun i => f (e + i)) (n - e) (m + 1) = z := ⟨_, rfl⟩
    rw [hz] at s3
    rw [← s3] at l3
    rw [hz, show e + m + 1 = e + (m + 1) from rfl, ← s3]
    exact ⟨min (e + z + 1) n, min (z + 1) (n - e), _, _, _, _, _, _, rfl, rfl, by omega, by omega, .inr ⟨m + 1, z, min (z + 1) (n - e), by omega, by omega, by omega, rfl, rfl, rfl, by omega, by omega, by omega⟩⟩
  · rw [if_neg h6, if_neg h6]
    have s3 := skipTo_shift un f n e m
    have l3 := skipTo_hi un f n (e + m) (by omega)
    obtain ⟨z, hz⟩ : ∃ z, skipTo un (fun i => f (e + i)) (n - e) m = z := ⟨_, rfl⟩
    rw [hz] at s3
    rw [← s3] at l3
    rw [hz, ← s3]
    exact ⟨e + z, z, _, _, _, _, _, _, rfl, rfl, rfl, by omega, .inr ⟨m, z, z, by omega, by omega, by omega, rfl, rfl, rfl, by omega, by omega, by omega⟩⟩

end Go.Proofs.Qxb6603462a
