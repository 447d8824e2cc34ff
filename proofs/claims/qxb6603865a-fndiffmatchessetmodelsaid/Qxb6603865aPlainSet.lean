import Derived.Test.Qxb6603865aPlainDiff
/- THE PLAIN LAW of the merge: against a look-up model. No Go in sight. -/
namespace Go.Proofs.Qxb6603865a

/-- What is asked of the order. -/
structure Ord (lt : ByteArray → ByteArray → Bool) : Prop where
  irr : ∀ a, lt a a = false
  tr : ∀ a b c, lt a b = true → lt b c = true → lt a c = true
  tri : ∀ a b, lt a b = false → lt b a = false → a = b

theorem Ord.ne {lt : ByteArray → ByteArray → Bool} (o : Ord lt) {a b : ByteArray} (h : lt a b = true) : a ≠ b := by
  rintro rfl
  rw [o.irr] at h
  exact absurd h (by decide)

/-- Strictly sorted by path. -/
def SortF (lt : ByteArray → ByteArray → Bool) (n : Nat) (F : Nat → FileR) : Prop := ∀ i, i + 1 < n → lt (F i).path (F (i + 1)).path = true

theorem SortF.all {lt : ByteArray → ByteArray → Bool} (o : Ord lt) {n : Nat} {F : Nat → FileR} (h : SortF lt n F) : ∀ i j, i < j → j < n → lt (F i).path (F j).path = true := by
  intro i j hij hj
  obtain ⟨d, rfl⟩ : ∃ d, j = i + 1 + d := ⟨j - (i + 1), by omega⟩
  induction d with
  | zero => exact h i hj
  | succ d ih =>
    have := h (i + 1 + d) (by omega)
    exact o.tr _ _ _ (ih (by omega) (by omega)) this

/-- Is the path one of the first n? -/
def InF (n : Nat) (F : Nat → FileR) (p : ByteArray) : Prop := ∃ i, i < n ∧ (F i).path = p

/-- What findPath says. -/
def Found (n : Nat) (F : Nat → FileR) (p : ByteArray) (lo : Nat) (ok : Bool) : Prop := (ok = true → lo < n ∧ (F lo).path = p) ∧ (ok = false → ¬ InF n F p)

theorem found_no {lt : ByteArray → ByteArray → Bool} (o : Ord lt) {n : Nat} {F : Nat → FileR} (hs : SortF lt n F) (p : ByteArray) (lo : Nat) (h1 : ∀ k, k < lo → lt (F k).path p = true) (h2 : ∀ k, lo ≤ k → k < n → lt (F k).path p = false) (h3 : lo < n → (F lo).path ≠ p) : ¬ InF n F p := by
  rintro ⟨i, hi, rfl⟩
  rcases Nat.lt_trichotomy i lo with h | h | h
  · exact o.ne (h1 i h) rfl
  · subst h
    exact h3 hi rfl
  · have := h2 lo (Nat.le_refl _) (by omega)
    rw [hs.all o lo i h hi] at this
    exact absurd this (by decide)

section
variable (lt : ByteArray → ByteArray → Bool) (F G : Nat → FileR) (nb na : Nat)

/-- The status of a path by look-up: never 0. -/
def Ent (d : Int × ByteArray) : Prop :=
  (d.1 = 1 ∧ InF na G d.2 ∧ ¬ InF nb F d.2) ∨ (d.1 = 2 ∧ InF nb F d.2 ∧ ¬ InF na G d.2) ∨
  (d.1 = 3 ∧ ∃ i j, i < nb ∧ j < na ∧ (F i).path = d.2 ∧ (G j).path = d.2 ∧ sameF (F i) (G j) = false)

/-- What classify says of a path. -/
def Cls (p : ByteArray) (c : Int) : Prop :=
  (c = 1 ∧ InF na G p ∧ ¬ InF nb F p) ∨ (c = 2 ∧ InF nb F p ∧ ¬ InF na G p) ∨ (c = 3 ∧ ∃ i j, i < nb ∧ j < na ∧ (F i).path = p ∧ (G j).path = p ∧ sameF (F i) (G j) = false) ∨
  (c = 0 ∧ ((¬ InF nb F p ∧ ¬ InF na G p) ∨ ∃ i j, i < nb ∧ j < na ∧ (F i).path = p ∧ (G j).path = p ∧ sameF (F i) (G j) = true))

variable {lt F G nb na}

theorem one_place (o : Ord lt) {n : Nat} {F : Nat → FileR} (hs : SortF lt n F) {i k : Nat} (hi : i < n) (hk : k < n) (e : (F i).path = (F k).path) : i = k := by
  rcases Nat.lt_trichotomy i k with h | h | h
  · exact absurd e (o.ne (hs.all o i k h hk))
  · exact h
  · exact absurd e.symm (o.ne (hs.all o k i h hi))

theorem ent_cls (o : Ord lt) (hF : SortF lt nb F) (hG : SortF lt na G) {st : Int} {p : ByteArray} {c : Int} (h : Ent F G nb na (st, p)) (hc : Cls F G nb na p c) : c = st ∧ c ≠ 0 := by
  have inF : ∀ {i}, i < nb → (F i).path = p → InF nb F p := fun h e => ⟨_, h, e⟩
  have inG : ∀ {i}, i < na → (G i).path = p → InF na G p := fun h e => ⟨_, h, e⟩
  rcases h with ⟨h0, h1, h2⟩ | ⟨h0, h1, h2⟩ | ⟨h0, i, j, hi, hj, e1, e2, hs⟩ <;> dsimp only at * <;> subst h0 <;>
    rcases hc with ⟨c0, c1, c2⟩ | ⟨c0, c1, c2⟩ | ⟨c0, i', j', hi', hj', d1, d2, hs'⟩ | ⟨c0, ⟨c1, c2⟩ | ⟨i', j', hi', hj', d1, d2, hs'⟩⟩ <;> subst c0
  all_goals first
    | exact ⟨rfl, by decide⟩
    | (exfalso; first | exact h2 c1 | exact h2 c2 | exact c2 h1 | exact c1 h1 | exact h2 (inF hi' d1) | exact h2 (inG hj' d2) | exact c2 (inF hi e1) | exact c2 (inG hj e2) | exact c1 (inF hi e1))
    | (exfalso
       have a := one_place o hF hi hi' (e1.trans d1.symm)
       have b := one_place o hG hj hj' (e2.trans d2.symm)
       subst a b
       rw [hs] at hs'
       exact absurd hs' (by decide))

/-- How many of the places from i up to n bear P. -/
def cntF (P : Nat → Prop) [DecidablePred P] (n : Nat) : Nat → Nat
  | 0 => 0
  | d + 1 => (if P (n - (d + 1)) then 1 else 0) + cntF P n d

/-- The count over the first m places (the program's own order). -/
def cntU (P : Nat → Prop) [DecidablePred P] : Nat → Nat
  | 0 => 0
  | m + 1 => cntU P m + (if P m then 1 else 0)

theorem cnt_both (P : Nat → Prop) [DecidablePred P] (n : Nat) : ∀ d m, m + d = n → cntU P n = cntU P m + cntF P n d := by
  intro d
  induction d with
  | zero =>
    intro m h
    have : m = n := by omega
    subst this
    rfl
  | succ d ih =>
    intro m h
    rw [ih (m + 1) (by omega), cntU, cntF, show n - (d + 1) = m by omega]
    omega
theorem cnt_all (P : Nat → Prop) [DecidablePred P] (n : Nat) : cntU P n = cntF P n n := by
  rw [cnt_both P n n 0 (by omega)]
  simp [cntU]

variable (F G nb na)
/-- File j of the new list counts: no file of the old list has her path and her content. -/
def QA (j : Nat) : Prop := ¬ ∃ i, i < nb ∧ (F i).path = (G j).path ∧ sameF (F i) (G j) = true
/-- File i of the old list counts: her path is not in the new list. -/
def QR (i : Nat) : Prop := ¬ InF na G (F i).path
variable {F G nb na}

/-- Where the merge stands. -/
structure Inv (lt : ByteArray → ByteArray → Bool) (F G : Nat → FileR) (nb na i j : Nat) : Prop where
  a : ∀ k l, k < i → k < nb → j ≤ l → l < na → lt (F k).path (G l).path = true
  b : ∀ k l, l < j → l < na → i ≤ k → k < nb → lt (G l).path (F k).path = true

open Classical in
/-- The plain law: every entry has the status of the look-up, the paths ascend strictly, each comes from a file still to come, and they are as many as the count says. -/
theorem diff_law (o : Ord lt) (hF : SortF lt nb F) (hG : SortF lt na G) : ∀ d i j, (nb - i) + (na - j) = d → Inv lt F G nb na i j →
    (∀ e ∈ diffT lt F G nb na i j, Ent F G nb na e) ∧ (∀ e ∈ diffT lt F G nb na i j, (∃ k, i ≤ k ∧ k < nb ∧ e.2 = (F k).path) ∨ (∃ l, j ≤ l ∧ l < na ∧ e.2 = (G l).path)) ∧
    (diffT lt F G nb na i j).Pairwise (fun x y => lt x.2 y.2 = true) ∧ (diffT lt F G nb na i j).length = cntF (QA F G nb) na (na - j) + cntF (QR F G na) nb (nb - i) := by
  intro d
  induction d using Nat.strongRecOn with
  | ind d ih =>
  intro i j hd I
  have sF := hF.all o
  have sG := hG.all o
  by_cases hij : i < nb ∨ j < na
  · by_cases hrem : i < nb ∧ (na ≤ j ∨ lt (F i).path (G j).path = true)
    · obtain ⟨hi, hr⟩ := hrem
      have hl : ∀ l, j ≤ l → l < na → lt (F i).path (G l).path = true := by
        intro l h1 h2
        rcases hr with hr | hr
        · omega
        · rcases Nat.eq_or_lt_of_le h1 with e | e
          · subst e; exact hr
          · exact o.tr _ _ _ hr (sG j l e h2)
      have nin : ¬ InF na G (F i).path := by
        rintro ⟨l, h1, h2⟩
        by_cases hlj : l < j
        · exact o.ne (I.b i l hlj h1 (Nat.le_refl _) hi) h2
        · exact o.ne (hl l (by omega) h1) h2.symm
      obtain ⟨A, B, C, D⟩ := ih _ (by omega) (i + 1) j rfl ⟨fun k l h1 h2 h3 h4 => by
        rcases Nat.eq_or_lt_of_le (Nat.le_of_lt_succ h1) with e | e
        · subst e; exact hl l h3 h4
        · exact I.a k l e h2 h3 h4, fun k l h1 h2 h3 h4 => I.b k l h1 h2 (by omega) h4⟩
      rw [diffT_removed lt F G nb na i j hi hr]
      refine ⟨?_, ?_, ?_, ?_⟩
      · intro e he
        rcases List.mem_cons.1 he with rfl | he
        · exact .inr (.inl ⟨rfl, ⟨i, hi, rfl⟩, nin⟩)
        · exact A e he
      · intro e he
        rcases List.mem_cons.1 he with rfl | he
        · exact .inl ⟨i, Nat.le_refl _, hi, rfl⟩
        · rcases B e he with ⟨k, h1, h2, h3⟩ | h
          · exact .inl ⟨k, by omega, h2, h3⟩
          · exact .inr h
      · refine List.pairwise_cons.2 ⟨?_, C⟩
        intro e he
        rcases B e he with ⟨k, h1, h2, h3⟩ | ⟨l, h1, h2, h3⟩
        · rw [h3]; exact sF i k (by omega) h2
        · rw [h3]; exact hl l h1 h2
      · rw [List.length_cons, D, show nb - i = (nb - (i + 1)) + 1 by omega]
        rw [cntF, show nb - (nb - (i + 1) + 1) = i by omega, if_pos (show QR F G na i from nin)]
        omega
    · have hj : j < na := by
        rcases hij with h | h
        · apply Classical.byContradiction; intro h2; exact hrem ⟨h, .inl (by omega)⟩
        · exact h
      have h0 : nb ≤ i ∨ lt (F i).path (G j).path = false := by
        by_cases hi : i < nb
        · refine .inr ?_
          cases h : lt (F i).path (G j).path with
          | false => rfl
          | true => exact absurd ⟨hi, .inr h⟩ hrem
        · exact .inl (by omega)
      by_cases hadd : nb ≤ i ∨ lt (G j).path (F i).path = true
      · have hl : ∀ k, i ≤ k → k < nb → lt (G j).path (F k).path = true := by
          intro k h1 h2
          rcases hadd with hr | hr
          · omega
          · rcases Nat.eq_or_lt_of_le h1 with e | e
            · subst e; exact hr
            · exact o.tr _ _ _ hr (sF i k e h2)
        have nin : ¬ InF nb F (G j).path := by
          rintro ⟨k, h1, h2⟩
          by_cases hk : k < i
          · exact o.ne (I.a k j hk h1 (Nat.le_refl _) hj) h2
          · exact o.ne (hl k (by omega) h1) h2.symm
        obtain ⟨A, B, C, D⟩ := ih _ (by omega) i (j + 1) rfl ⟨fun k l h1 h2 h3 h4 => I.a k l h1 h2 (by omega) h4, fun k l h1 h2 h3 h4 => by
          rcases Nat.eq_or_lt_of_le (Nat.le_of_lt_succ h1) with e | e
          · subst e; exact hl k h3 h4
          · exact I.b k l e h2 h3 h4⟩
        rw [diffT_added lt F G nb na i j hj h0 hadd]
        refine ⟨?_, ?_, ?_, ?_⟩
        · intro e he
          rcases List.mem_cons.1 he with rfl | he
          · exact .inl ⟨rfl, ⟨j, hj, rfl⟩, nin⟩
          · exact A e he
        · intro e he
          rcases List.mem_cons.1 he with rfl | he
          · exact .inr ⟨j, Nat.le_refl _, hj, rfl⟩
          · rcases B e he with h | ⟨k, h1, h2, h3⟩
            · exact .inl h
            · exact .inr ⟨k, by omega, h2, h3⟩
        · refine List.pairwise_cons.2 ⟨?_, C⟩
          intro e he
          rcases B e he with ⟨k, h1, h2, h3⟩ | ⟨l, h1, h2, h3⟩
          · rw [h3]; exact hl k h1 h2
          · rw [h3]; exact sG j l (by omega) h2
        · rw [List.length_cons, D, show na - j = (na - (j + 1)) + 1 by omega]
          rw [cntF, show na - (na - (j + 1) + 1) = j by omega, if_pos (show QA F G nb j from fun ⟨k, h1, h2, _⟩ => nin ⟨k, h1, h2⟩)]
          omega
      · have hi : i < nb := by omega
        have h0 : lt (F i).path (G j).path = false := by rcases h0 with h | h; omega; exact h
        have h1 : lt (G j).path (F i).path = false := by
          cases h : lt (G j).path (F i).path with
          | false => rfl
          | true => exact absurd (.inr h) hadd
        have ep : (F i).path = (G j).path := o.tri _ _ h0 h1
        obtain ⟨A, B, C, D⟩ := ih _ (by omega) (i + 1) (j + 1) rfl ⟨fun k l h1 h2 h3 h4 => by
          rcases Nat.eq_or_lt_of_le (Nat.le_of_lt_succ h1) with e | e
          · subst e; rw [ep]; exact sG j l (by omega) h4
          · exact I.a k l e h2 (by omega) h4, fun k l h1 h2 h3 h4 => by
          rcases Nat.eq_or_lt_of_le (Nat.le_of_lt_succ h1) with e | e
          · subst e; rw [← ep]; exact sF i k (by omega) h4
          · exact I.b k l e h2 (by omega) h4⟩
        have nq : ¬ QR F G na i := fun h => h ⟨j, hj, ep.symm⟩
        cases hs : sameF (F i) (G j) with
        | true =>
          rw [diffT_same lt F G nb na i j hi hj h0 h1 hs]
          refine ⟨A, ?_, C, ?_⟩
          · intro e he
            rcases B e he with ⟨k, h1, h2, h3⟩ | ⟨k, h1, h2, h3⟩
            · exact .inl ⟨k, by omega, h2, h3⟩
            · exact .inr ⟨k, by omega, h2, h3⟩
          · rw [D, show na - j = (na - (j + 1)) + 1 by omega, show nb - i = (nb - (i + 1)) + 1 by omega]
            rw [cntF, cntF, show na - (na - (j + 1) + 1) = j by omega, show nb - (nb - (i + 1) + 1) = i by omega, if_neg (show ¬ QA F G nb j from fun h => h ⟨i, hi, ep, hs⟩), if_neg nq]
            omega
        | false =>
          rw [diffT_changed lt F G nb na i j hi hj h0 h1 hs]
          refine ⟨?_, ?_, ?_, ?_⟩
          · intro e he
            rcases List.mem_cons.1 he with rfl | he
            · exact .inr (.inr ⟨rfl, i, j, hi, hj, ep, rfl, hs⟩)
            · exact A e he
          · intro e he
            rcases List.mem_cons.1 he with rfl | he
            · exact .inr ⟨j, Nat.le_refl _, hj, rfl⟩
            · rcases B e he with ⟨k, h1, h2, h3⟩ | ⟨k, h1, h2, h3⟩
              · exact .inl ⟨k, by omega, h2, h3⟩
              · exact .inr ⟨k, by omega, h2, h3⟩
          · refine List.pairwise_cons.2 ⟨?_, C⟩
            intro e he
            rcases B e he with ⟨k, h1, h2, h3⟩ | ⟨l, h1, h2, h3⟩
            · rw [h3, ← ep]; exact sF i k (by omega) h2
            · rw [h3]; exact sG j l (by omega) h2
          · have qa : QA F G nb j := by
              rintro ⟨k, h1, h2, h3⟩
              have := one_place o hF h1 hi (h2.trans ep.symm)
              subst this
              rw [hs] at h3
              exact absurd h3 (by decide)
            rw [List.length_cons, D, show na - j = (na - (j + 1)) + 1 by omega, show nb - i = (nb - (i + 1)) + 1 by omega]
            rw [cntF, cntF, show na - (na - (j + 1) + 1) = j by omega, show nb - (nb - (i + 1) + 1) = i by omega, if_pos qa, if_neg nq]
            omega
  · rw [diffT_done lt F G nb na i j (by omega) (by omega), show na - j = 0 by omega, show nb - i = 0 by omega]
    exact ⟨by simp, by simp, List.Pairwise.nil, rfl⟩

open Classical in
theorem diff_law0 (o : Ord lt) (hF : SortF lt nb F) (hG : SortF lt na G) :
    (∀ e ∈ diffT lt F G nb na 0 0, Ent F G nb na e) ∧ (diffT lt F G nb na 0 0).Pairwise (fun x y => lt x.2 y.2 = true) ∧ (diffT lt F G nb na 0 0).length = cntU (QA F G nb) na + cntU (QR F G na) nb := by
  obtain ⟨A, _, C, D⟩ := diff_law o hF hG _ 0 0 rfl ⟨fun k l h => absurd h (Nat.not_lt_zero k), fun k l h => absurd h (Nat.not_lt_zero l)⟩
  exact ⟨A, C, by rw [D, cnt_all, cnt_all]; rfl⟩
end

end Go.Proofs.Qxb6603865a
