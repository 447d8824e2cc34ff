/- THE PLAIN LAW of FnReadValueStaysBetweenNameAndTagEnd: no Go in sight. -/
import Derived.Test.Qxb6603462aPlain
namespace Go.Proofs.Qxb6603462a

theorem run_all (p : Int → Bool) (f : Nat → Int) : ∀ k i j, i ≤ j → j < run p f k i → p (f j) = true
  | 0, i, j, h1, h2 => by unfold run at h2; omega
  | k + 1, i, j, h1, h2 => by
    unfold run at h2
    by_cases hp : p (f i) = true
    · rw [if_pos hp] at h2
      by_cases hj : j = i
      · rw [hj]; exact hp
      · exact run_all p f k (i + 1) j (by omega) h2
    · rw [if_neg hp] at h2
      omega

theorem skipTo_all (p : Int → Bool) (f : Nat → Int) (n i j : Nat) (h1 : i ≤ j) (h2 : j < skipTo p f n i) : p (f j) = true := run_all p f (n - i) i j h1 h2

theorem rv_between (f : Nat → Int) (n e : Nat) (he : e ≤ n) (v ve en : Int) :
    ∃ (N : Nat) (V VE EN : Int), rv f n e v ve en = ((N : Int), V, VE, EN) ∧ e ≤ N ∧ N ≤ n ∧
      ((V = v ∧ VE = ve ∧ EN = en) ∨
       ∃ ke p b : Nat, V = p ∧ VE = b ∧ EN = N ∧ e ≤ ke ∧ ke < p ∧ p ≤ b ∧ b ≤ N ∧ f ke = 61 ∧
         ∀ j, e ≤ j → j < p → j ≠ ke → sp (f j) = true ∨ (sp (f j) = false ∧ j + 1 = p ∧ (f j = 34 ∨ f j = 39))) := by
  have l1 := skipTo_hi sp f n e he
  have g1 := skipTo_lo sp f n e
  have a1 := skipTo_all sp f n e
  unfold rv
  generalize skipTo sp f n e = k at *
  by_cases h1 : n ≤ k
  · rw [if_pos h1]
    exact ⟨k, _, _, _, rfl, g1, l1, .inl ⟨rfl, rfl, rfl⟩⟩
  rw [if_neg h1]
  by_cases h2 : f k = 47
  · rw [if_pos h2]
    exact ⟨k + 1, _, _, _, rfl, by omega, by omega, .inl ⟨rfl, rfl, rfl⟩⟩
  rw [if_neg h2]
  by_cases h3 : f k ≠ 61
  · rw [if_pos h3]
    exact ⟨k, _, _, _, rfl, g1, l1, .inl ⟨rfl, rfl, rfl⟩⟩
  rw [if_neg h3]
  have h3' : f k = 61 := Decidable.of_not_not h3
  have l2 := skipTo_hi sp f n (k + 1) (by omega)
  have g2 := skipTo_lo sp f n (k + 1)
  have a2 := skipTo_all sp f n (k + 1)
  generalize skipTo sp f n (k + 1) = m at *
  have hsp : ∀ j, e ≤ j → j < m → j ≠ k → sp (f j) = true := by
    intro j hj1 hj2 hj3
    by_cases hk : j < k
    · exact a1 j hj1 hk
    · exact a2 j (by omega) hj2
  by_cases h4 : n ≤ m
  · rw [if_pos h4]
    exact ⟨m, _, _, _, rfl, by omega, l2, .inr ⟨k, m, m, rfl, rfl, rfl, g1, by omega, by omega, by omega, h3', fun j q1 q2 q3 => .inl (hsp j q1 q2 q3)⟩⟩
  rw [if_neg h4]
  by_cases h5 : f m = 62
  · rw [if_pos h5]
    exact ⟨m, _, _, _, rfl, by omega, l2, .inr ⟨k, m, m, rfl, rfl, rfl, g1, by omega, by omega, by omega, h3', fun j q1 q2 q3 => .inl (hsp j q1 q2 q3)⟩⟩
  rw [if_neg h5]
  by_cases h6 : f m = 34 ∨ f m = 39
  · rw [if_pos h6]
    have l3 := skipTo_hi (nq (f m)) f n (m + 1) (by omega)
    have g3 := skipTo_lo (nq (f m)) f n (m + 1)
    generalize skipTo (nq (f m)) f n (m + 1) = z at *
    refine ⟨min (z + 1) n, _, _, _, rfl, by omega, by omega, .inr ⟨k, m + 1, z, rfl, rfl, rfl, g1, by omega, by omega, by omega, h3', ?_⟩⟩
    intro j q1 q2 q3
    by_cases hj : j = m
    · subst hj
      refine .inr ⟨?_, rfl, h6⟩
      rcases h6 with h6 | h6 <;> rw [h6] <;> rfl
    · exact .inl (hsp j q1 (by omega) q3)
  · rw [if_neg h6]
    have l3 := skipTo_hi un f n m (by omega)
    have g3 := skipTo_lo un f n m
    generalize skipTo un f n m = z at *
    exact ⟨z, _, _, _, rfl, by omega, l3, .inr ⟨k, m, z, rfl, rfl, rfl, g1, by omega, by omega, by omega, h3', fun j q1 q2 q3 => .inl (hsp j q1 q2 q3)⟩⟩

theorem sp_ne {c : Int} (h : sp c = true) : (c == 61) = false := by
  by_cases h' : c = 61
  · subst h'; exact absurd h (by decide)
  · simpa using h'

end Go.Proofs.Qxb6603462a
