import Derived.Test.Qxb6603462aReadUse
import Derived.Test.Qxb6603462aPlainTag
namespace Go.Proofs.Qxb6603462a
open Go.RowKit Go.Proofs.Qxb6603462a.Use

theorem info25 : (Try.prog.info? 25).map (fun i => (i.zero, i.size, i.bytes)) = some (some (.agg #[.int .i64 0, .int .i64 0, .int .i64 0, .int .i64 0, .int .i64 0, .int .i64 0]), 6, 48) := by kernel_rfl

/-- An attribute's six cells. -/
def At.vals (a : At) : List Value := [.int .i64 a.s, .int .i64 a.n, .int .i64 a.e, .int .i64 a.v, .int .i64 a.ve, .int .i64 a.en]
def flatA (L : List At) : List Value := L.flatMap At.vals
theorem flatA_snoc (L : List At) (a : At) : flatA (L ++ [a]) = flatA L ++ a.vals := by unfold flatA; rw [List.flatMap_append]; simp

theorem cell_six_new (w : World) (a b c d e g : Value) (t : TypeId) : ∀ j u, [a, b, c, d, e, g][j]? = some u → (w.alloc (.cells #[a, b, c, d, e, g] t)).cell? ((⟨w.heap.size, 0, none⟩ : Addr).add j) = some u := by
  intro j u hj
  match j, hj with
  | 0, hj => simp at hj; subst hj; simp [Addr.add]
  | 1, hj => simp at hj; subst hj; simp [Addr.add]
  | 2, hj => simp at hj; subst hj; simp [Addr.add]
  | 3, hj => simp at hj; subst hj; simp [Addr.add]
  | 4, hj => simp at hj; subst hj; simp [Addr.add]
  | 5, hj => simp at hj; subst hj; simp [Addr.add]
  | j + 6, hj => simp at hj

theorem one_six (a b c d e g : Int) : ∀ u ∈ [Value.int .i64 a, .int .i64 b, .int .i64 c, .int .i64 d, .int .i64 e, .int .i64 g], u.oneCell' = true := by
  intro u hu
  simp at hu
  rcases hu with rfl | rfl | rfl | rfl | rfl | rfl <;> rfl

theorem Row8.later {w wr : World} {a : Option Addr} {n : Nat} {f : Nat → Int} (h : Row8 w a n f) (hb : Below w.heap.size w wr) : Row8 wr a n f := by
  intro i hi
  obtain ⟨b, off, ha, hc⟩ := h i hi
  exact ⟨b, off, ha, cell_later hb hc⟩

theorem skipSpace_eq (a : Option Addr) (n c : Nat) (f : Nat → Int) (i k : Nat) (w : World) (hr : Row8 w a n f) (hn : n ≤ 1048576) (hk : Hid (skipTo sp f n i = k)) :
    Calls Try.prog 23 #[.slice a n c, .int .i64 i] w fun e w' => e = .returned (.int .i64 k) ∧ w = w' :=
  (skipSpace_is a n c f i k w hr hn hk).mono fun _ _ h => ⟨h.1, h.2.symm⟩

theorem isSpace_eq (c : Int) (w : World) : Calls Try.prog 22 #[.int .u8 c] w fun e w' => e = .returned (.bool (sp c)) ∧ w = w' :=
  (isSpace_any c w).mono fun _ _ h => ⟨h.1, h.2.symm⟩
theorem zzSp_eq (c : Int) (w : World) : Calls Try.prog 13 #[.int .u8 c] w fun e w' => e = .returned (.bool (sp c)) ∧ w = w' :=
  (zzSp_any c w).mono fun _ _ h => ⟨h.1, h.2.symm⟩

theorem run_stop (p : Int → Bool) (f : Nat → Int) : ∀ k i, run p f k i < i + k → p (f (run p f k i)) = false
  | 0, i, h => by unfold run at h; omega
  | k + 1, i, h => by
    by_cases hp : p (f i) = true
    · rw [run, if_pos hp] at h ⊢
      exact run_stop p f k (i + 1) (by omega)
    · rw [run, if_neg hp]
      simpa using hp
theorem skipTo_stop (p : Int → Bool) (f : Nat → Int) (n i k : Nat) (hk : skipTo p f n i = k) (h : k < n) (hi : i ≤ k) : p (f k) = false := by
  unfold skipTo at hk
  rw [← hk]
  exact run_stop p f (n - i) i (by omega)

end Go.Proofs.Qxb6603462a
