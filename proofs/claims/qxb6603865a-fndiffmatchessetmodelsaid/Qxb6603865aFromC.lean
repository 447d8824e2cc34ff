import Derived.Test.Qxb6603865aFirst
namespace Go.Proofs.Qxb6603865a
open Go.RowKit

/-- Size of nothing, or of a manifest. -/
theorem manifestSize_from (n : Int) (fp : Option Addr) (bl nb : Nat) (B : Nat → ByteArray) (F : Nat → FileR) (w : World) (h : FromAt w fp bl B nb F) (n0 : 0 ≤ n) (n1 : n ≤ 1048577) (hbl : bl ≤ 1048576) (hnb : nb ≤ 1048576) :
    Calls Try.prog 9 #[.int .i64 n, .pointer fp] w fun e w' => ∃ m : Int, e = .returned (.int .i64 m) ∧ (0 ≤ m ∧ m ≤ 1048577) ∧ w = w' := by
  rcases h with ⟨rfl, rfl, rfl⟩ | ⟨pb, po, s0, s1, s2, s3, s4, ca, cc, fa, fc, rfl, hM⟩
  · go_enter Try.func9, Try.ntmps9
    go_wp2
    go_ret
    exact ⟨n, rfl, ⟨n0, n1⟩, rfl⟩
  · exact manifestSize_any n pb po s0 s1 s2 s3 s4 ca bl cc B fa nb fc F w hM n0 n1 hbl hnb

/-- Nothing becomes nothing, a manifest a manifest. -/
theorem toBundle_from (fp : Option Addr) (bl nb : Nat) (B : Nat → ByteArray) (F : Nat → FileR) (w : World) (h : FromAt w fp bl B nb F) (hbl : bl ≤ 1048576) (hnb : nb ≤ 1048576) :
    Calls Try.prog 12 #[.pointer fp] w fun e w' => ∃ gp : Option Addr, e = .returned (.pointer gp) ∧ FromAt w' gp bl B nb F ∧ Below w.heap.size w w' := by
  rcases h with ⟨rfl, rfl, rfl⟩ | ⟨pb, po, s0, s1, s2, s3, s4, ca, cc, fa, fc, rfl, hM⟩
  · go_enter Try.func12, Try.ntmps12
    go_wp2
    go_ret
    exact ⟨none, rfl, .inl ⟨rfl, rfl, rfl⟩, Below.refl _ _⟩
  · refine (toBundle_any pb po s0 s1 s2 s3 s4 ca bl cc B fa nb fc F w hM hbl hnb).mono ?_
    rintro _ w' ⟨qb, ca', cc', fa', fc', rfl, hman, b3⟩
    exact ⟨_, rfl, .inr ⟨qb, 0, s0, s1, s2, s3, s4, ca', cc', fa', fc', rfl, hman⟩, b3⟩

theorem FromAt.later {w wr : World} {fp : Option Addr} {bl nb : Nat} {B : Nat → ByteArray} {F : Nat → FileR} (h : FromAt w fp bl B nb F) (hb : Below w.heap.size w wr) : FromAt wr fp bl B nb F := by
  rcases h with h | ⟨pb, po, s0, s1, s2, s3, s4, ca, cc, fa, fc, rfl, hM⟩
  · exact .inl h
  · exact .inr ⟨pb, po, s0, s1, s2, s3, s4, ca, cc, fa, fc, rfl, hM.later hb⟩

/-- A slice of path changes of length n that reads as D. -/
def RowP (w : World) (a : Option Addr) (n : Nat) (D : List (Int × ByteArray)) : Prop :=
  ∀ i, i < n → ∀ d, D[i]? = some d → ∃ b off, a = some ⟨b, off, none⟩ ∧ w.cell? ⟨b, off + i * 2, none⟩ = some (.int .i64 d.1) ∧ w.cell? ⟨b, off + i * 2 + 1, none⟩ = some (.string d.2)

theorem RowP.later {w wr : World} {a : Option Addr} {n : Nat} {D : List (Int × ByteArray)} (h : RowP w a n D) (hb : Below w.heap.size w wr) : RowP wr a n D := by
  intro i hi d hd
  obtain ⟨b, off, ha, h0, h1⟩ := h i hi d hd
  exact ⟨b, off, ha, cell_later hb h0, cell_later hb h1⟩

theorem owned_rowP {w : World} {base : Nat} {v : Value} {D : List (Int × ByteArray)} (h : w.ownsRow base 39 2 v D.length (flatD D)) :
    ∃ a c, v = .slice a D.length c ∧ RowP w a D.length D ∧ (D.length = 0 ∨ a ≠ none) := by
  rcases h.2 with ⟨hv, h0⟩ | ⟨g, cap, cur, hv, _⟩
  · refine ⟨none, 0, by rw [hv, h0], fun i hi => ?_, .inl h0⟩
    rw [h0] at hi
    exact absurd hi (Nat.not_lt_zero i)
  · refine ⟨some ⟨g, 0, none⟩, cap, hv, fun i hi d hd => ⟨g, 0, rfl, ?_, ?_⟩, .inr (by simp)⟩
    all_goals
      have hob : v.ownBlock = some g := by rw [hv]; rfl
      have hf := flatD_get D i _ hd
    · have := h.cells hob (i * 2) _ hf.1
      have hadd : (⟨g, 0, none⟩ : Addr).add (i * 2) = ⟨g, 0 + i * 2, none⟩ := by unfold Addr.add; split <;> simp_all
      rw [hadd] at this
      exact this
    · have := h.cells hob (i * 2 + 1) _ hf.2
      have hadd : (⟨g, 0, none⟩ : Addr).add (i * 2 + 1) = ⟨g, 0 + i * 2 + 1, none⟩ := by unfold Addr.add; split <;> simp_all
      rw [hadd] at this
      exact this

end Go.Proofs.Qxb6603865a
