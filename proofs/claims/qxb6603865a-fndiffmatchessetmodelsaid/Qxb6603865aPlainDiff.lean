/- THE PLAIN PART of Diff: a merge of two lists of files. No Go in sight. -/
namespace Go.Proofs.Qxb6603865a

/-- One file of a manifest. -/
structure FileR where
  path : ByteArray
  sha : ByteArray
  size : Int
  mode : Int

section
variable (lt : ByteArray → ByteArray → Bool) (F G : Nat → FileR) (nb na : Nat)

/-- Is file i of the one and file j of the other the same content? -/
def sameF (a b : FileR) : Bool := decide (a.sha = b.sha) && decide (a.mode = b.mode)

/-- One step of the merge: what it emits, and how far it goes on either side. -/
def stepD (i j : Nat) : List (Int × ByteArray) × Nat × Nat :=
  if na ≤ j ∨ (i < nb ∧ lt (F i).path (G j).path = true) then ([(2, (F i).path)], i + 1, j)
  else if nb ≤ i ∨ lt (G j).path (F i).path = true then ([(1, (G j).path)], i, j + 1)
  else if sameF (F i) (G j) = true then ([], i + 1, j + 1) else ([(3, (G j).path)], i + 1, j + 1)

def diffGo : Nat → Nat → Nat → List (Int × ByteArray)
  | 0, _, _ => []
  | m + 1, i, j => if i < nb ∨ j < na then (stepD lt F G nb na i j).1 ++ diffGo m (stepD lt F G nb na i j).2.1 (stepD lt F G nb na i j).2.2 else []

/-- What is still to come from places i, j. -/
def diffT (i j : Nat) : List (Int × ByteArray) := diffGo lt F G nb na ((nb - i) + (na - j)) i j

theorem stepD_less (i j : Nat) (h : i < nb ∨ j < na) : (nb - (stepD lt F G nb na i j).2.1) + (na - (stepD lt F G nb na i j).2.2) < (nb - i) + (na - j) := by
  unfold stepD
  by_cases h1 : na ≤ j ∨ (i < nb ∧ lt (F i).path (G j).path = true)
  · rw [if_pos h1]
    have : i < nb := by rcases h1 with h1 | h1 <;> omega
    dsimp only
    omega
  · rw [if_neg h1]
    have hj : j < na := by omega
    by_cases h2 : nb ≤ i ∨ lt (G j).path (F i).path = true
    · rw [if_pos h2]
      dsimp only
      omega
    · rw [if_neg h2]
      split <;> (dsimp only; omega)

theorem diffGo_fuel : ∀ d m1 m2 i j, (nb - i) + (na - j) ≤ d → (nb - i) + (na - j) ≤ m1 → (nb - i) + (na - j) ≤ m2 → diffGo lt F G nb na m1 i j = diffGo lt F G nb na m2 i j := by
  have done : ∀ m i j, ¬ (i < nb ∨ j < na) → diffGo lt F G nb na m i j = [] := by
    intro m i j h
    cases m with
    | zero => rfl
    | succ m => rw [diffGo, if_neg h]
  intro d
  induction d with
  | zero =>
    intro m1 m2 i j h _ _
    rw [done m1 i j (by omega), done m2 i j (by omega)]
  | succ d ih =>
    intro m1 m2 i j h h1 h2
    by_cases hc : i < nb ∨ j < na
    · obtain ⟨m1, rfl⟩ : ∃ m, m1 = m + 1 := ⟨m1 - 1, by omega⟩
      obtain ⟨m2, rfl⟩ : ∃ m, m2 = m + 1 := ⟨m2 - 1, by omega⟩
      have hl := stepD_less lt F G nb na i j hc
      rw [diffGo, diffGo, if_pos hc, if_pos hc]
      rw [ih m1 m2 _ _ (by omega) (by omega) (by omega)]
    · rw [done m1 i j hc, done m2 i j hc]

theorem diffT_step (i j : Nat) (h : i < nb ∨ j < na) : diffT lt F G nb na i j = (stepD lt F G nb na i j).1 ++ diffT lt F G nb na (stepD lt F G nb na i j).2.1 (stepD lt F G nb na i j).2.2 := by
  have hl := stepD_less lt F G nb na i j h
  unfold diffT
  obtain ⟨m, hm⟩ : ∃ m, (nb - i) + (na - j) = m + 1 := ⟨(nb - i) + (na - j) - 1, by omega⟩
  rw [hm, diffGo, if_pos h]
  rw [diffGo_fuel lt F G nb na _ m _ _ _ (Nat.le_refl _) (by omega) (Nat.le_refl _)]

theorem diffT_done (i j : Nat) (h1 : nb ≤ i) (h2 : na ≤ j) : diffT lt F G nb na i j = [] := by
  unfold diffT
  rw [show (nb - i) + (na - j) = 0 by omega]
  rfl

theorem diffT_removed (i j : Nat) (hi : i < nb) (h : na ≤ j ∨ lt (F i).path (G j).path = true) : diffT lt F G nb na i j = (2, (F i).path) :: diffT lt F G nb na (i + 1) j := by
  rw [diffT_step lt F G nb na i j (.inl hi)]
  unfold stepD
  rw [if_pos (by rcases h with h | h; exact .inl h; exact .inr ⟨hi, h⟩)]
  rfl
theorem diffT_added (i j : Nat) (hj : j < na) (h0 : nb ≤ i ∨ lt (F i).path (G j).path = false) (h : nb ≤ i ∨ lt (G j).path (F i).path = true) : diffT lt F G nb na i j = (1, (G j).path) :: diffT lt F G nb na i (j + 1) := by
  rw [diffT_step lt F G nb na i j (.inr hj)]
  unfold stepD
  rw [if_neg (by rcases h0 with h0 | h0; omega; rw [h0]; simp; omega), if_pos h]
  rfl
theorem diffT_same (i j : Nat) (hi : i < nb) (hj : j < na) (h0 : lt (F i).path (G j).path = false) (h1 : lt (G j).path (F i).path = false) (h2 : sameF (F i) (G j) = true) : diffT lt F G nb na i j = diffT lt F G nb na (i + 1) (j + 1) := by
  rw [diffT_step lt F G nb na i j (.inr hj)]
  unfold stepD
  rw [if_neg (by rw [h0]; simp; omega), if_neg (by rw [h1]; simp; omega), if_pos h2]
  rfl
theorem diffT_changed (i j : Nat) (hi : i < nb) (hj : j < na) (h0 : lt (F i).path (G j).path = false) (h1 : lt (G j).path (F i).path = false) (h2 : sameF (F i) (G j) = false) : diffT lt F G nb na i j = (3, (G j).path) :: diffT lt F G nb na (i + 1) (j + 1) := by
  rw [diffT_step lt F G nb na i j (.inr hj)]
  unfold stepD
  rw [if_neg (by rw [h0]; simp; omega), if_neg (by rw [h1]; simp; omega), if_neg (by rw [h2]; decide)]
  rfl

theorem diffGo_length : ∀ m i j, (diffGo lt F G nb na m i j).length ≤ m
  | 0, _, _ => Nat.le_refl _
  | m + 1, i, j => by
    rw [diffGo]
    split
    · have h1 := diffGo_length m (stepD lt F G nb na i j).2.1 (stepD lt F G nb na i j).2.2
      have h2 : (stepD lt F G nb na i j).1.length ≤ 1 := by
        unfold stepD
        split
        · exact Nat.le_refl _
        split
        · exact Nat.le_refl _
        split
        · exact Nat.zero_le _
        · exact Nat.le_refl _
      rw [List.length_append]
      omega
    · exact Nat.zero_le _
theorem diffT_length (i j : Nat) : (diffT lt F G nb na i j).length ≤ (nb - i) + (na - j) := diffGo_length lt F G nb na _ i j
end

end Go.Proofs.Qxb6603865a
