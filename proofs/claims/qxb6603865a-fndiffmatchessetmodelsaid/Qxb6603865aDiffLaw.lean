import Derived.Test.Qxb6603865aCountQ
import Derived.Test.Qxb6603865aFromC
namespace Go.Proofs.Qxb6603865a
open Go.RowKit

/-- A slice of path changes of length n that reads as T. -/
def RowT (w : World) (a : Option Addr) (n : Nat) (T : Nat → Int × ByteArray) : Prop :=
  ∀ i, i < n → ∃ b off, a = some ⟨b, off, none⟩ ∧ w.cell? ⟨b, off + i * 2, none⟩ = some (.int .i64 (T i).1) ∧ w.cell? ⟨b, off + i * 2 + 1, none⟩ = some (.string (T i).2)

theorem RowT.later {w wr : World} {a : Option Addr} {n : Nat} {T : Nat → Int × ByteArray} (h : RowT w a n T) (hb : Below w.heap.size w wr) : RowT wr a n T := by
  intro i hi
  obtain ⟨b, off, ha, h0, h1⟩ := h i hi
  exact ⟨b, off, ha, cell_later hb h0, cell_later hb h1⟩

theorem RowT.drewN {w : World} {a : Option Addr} {n : Nat} {T : Nat → Int × ByteArray} (h : RowT w a n T) (k : Nat) : RowT (w.drewN k) a n T := h

open Classical in
theorem cntU_le (P : Nat → Prop) : ∀ m, cntU P m ≤ m
  | 0 => Nat.le_refl _
  | m + 1 => by
    have := cntU_le P m
    rw [cntU]
    split <;> omega

open Classical in
/-- What the look-up model says of a list of changes. -/
structure Model (F G : Nat → FileR) (nb na n : Nat) (T : Nat → Int × ByteArray) : Prop where
  ent : ∀ i, i < n → Ent F G nb na (T i)
  asc : ∀ m, m + 1 < n → Op.bytesLess (T m).2.toList (T (m + 1)).2.toList = true
  len : n = cntU (QA F G nb) na + cntU (QR F G na) nb

theorem model_of {F G : Nat → FileR} {nb na : Nat} (hF : SortF ltS nb F) (hG : SortF ltS na G) {D : List (Int × ByteArray)} (hD : diffT ltS F G nb na 0 0 = D) :
    Model F G nb na D.length (fun i => D.getD i (0, ByteArray.empty)) := by
  obtain ⟨A, C, L⟩ := diff_law0 ordS hF hG
  rw [hD] at A C L
  have e : ∀ i (h : i < D.length), D.getD i (0, ByteArray.empty) = D[i] := fun i h => by simp [h]
  refine ⟨fun i hi => ?_, fun m hm => ?_, L⟩
  · rw [e i hi]
    exact A _ (List.getElem_mem hi)
  · rw [e m (by omega), e (m + 1) hm]
    exact List.pairwise_iff_getElem.1 C m (m + 1) (by omega) hm (Nat.lt_succ_self m)

theorem Model.le {F G : Nat → FileR} {nb na n : Nat} {T : Nat → Int × ByteArray} (h : Model F G nb na n T) (hnb : nb ≤ 1048576) (hna : na ≤ 1048576) : n ≤ 2097152 := by
  have a := cntU_le (QA F G nb) na
  have b := cntU_le (QR F G na) nb
  have := h.len
  omega

/-- Diff's answer over two sorted lists, as the law reads it. -/
theorem diff_model (fp : Option Addr) (bl : Nat) (B : Nat → ByteArray) (nb : Nat) (F : Nat → FileR) (pb po : Nat) (s0 s1 s2 s3 s4 : ByteArray) (ca : Option Addr) (cl cc : Nat) (C : Nat → ByteArray) (fa : Option Addr) (na fc : Nat) (G : Nat → FileR) (w : World)
    (hf : FromAt w fp bl B nb F) (h : ManAt w pb po s0 s1 s2 s3 s4 ca cl cc C fa na fc G) (hbl : bl ≤ 1048576) (hnb : nb ≤ 1048576) (hcl : cl ≤ 1048576) (hna : na ≤ 1048576) (hF : SortF ltS nb F) (hG : SortF ltS na G) :
    Calls Try.prog 11 #[.pointer fp, .pointer (some ⟨pb, po, none⟩)] w fun e w' => ∃ (va : Option Addr) (n vc : Nat) (T : Nat → Int × ByteArray) (r : Bool), e = .returned (.agg #[.slice va n vc, .bool (!r)]) ∧ Hid (r = true ↔ EqS bl cl B C) ∧ RowT w' va n T ∧ n ≤ 2097152 ∧
      Hid (Model F G nb na n T) ∧ (n = 0 → va = none ∧ vc = 0) ∧ Below w.heap.size w w' := by
  refine (diff_any fp bl B nb F pb po s0 s1 s2 s3 s4 ca cl cc C fa na fc G w hf h hbl hnb hcl hna _ rfl).mono ?_
  rintro _ w' ⟨v, r, rfl, hr, hown, hnil, hb⟩
  obtain ⟨va, vc, rfl, hrow, _⟩ := owned_rowP hown
  have M := model_of hF hG rfl
  refine ⟨va, _, vc, _, r, rfl, hr, ?_, M.le hnb hna, M, ?_, hb⟩
  · intro i hi
    obtain ⟨b, off, ha, h0, h1⟩ := hrow i hi _ (List.getElem?_eq_getElem hi)
    have e : (diffT ltS F G nb na 0 0).getD i (0, ByteArray.empty) = (diffT ltS F G nb na 0 0)[i] := by simp [hi]
    exact ⟨b, off, ha, by rw [h0]; simp only [e], by rw [h1]; simp only [e]⟩
  · intro h0
    have := hnil.out (List.length_eq_zero_iff.1 h0)
    injection this with e1 _ e3
    exact ⟨e1, e3⟩

/-- countQualifying, its answer said. -/
theorem countQ_is (a1 a2 : Option Addr) (nb na k1 k2 n : Nat) (F G : Nat → FileR) (T : Nat → Int × ByteArray) (w : World) (h1 : RowF w a1 nb F) (h2 : RowF w a2 na G) (hnb : nb ≤ 1048576) (hna : na ≤ 1048576) (hs1 : SortF ltS nb F) (hs2 : SortF ltS na G) (M : Model F G nb na n T) :
    Calls Try.prog 15 #[.slice a1 nb k1, .slice a2 na k2] w fun e w' => e = .returned (.int .i64 n) ∧ ∃ q, w' = w.drewN q := by
  refine (countQ_any a1 a2 nb na k1 k2 F G w h1 h2 hnb hna hs1 hs2).mono ?_
  rintro _ w' ⟨c, rfl, hc, q, rfl⟩
  exact ⟨by rw [hc.out, ← M.len], q, rfl⟩

/-- classify, its answer said. -/
theorem classify_is (a1 a2 : Option Addr) (nb na k1 k2 n i : Nat) (F G : Nat → FileR) (T : Nat → Int × ByteArray) (w : World) (h1 : RowF w a1 nb F) (h2 : RowF w a2 na G) (hnb : nb ≤ 1048576) (hna : na ≤ 1048576) (hs1 : SortF ltS nb F) (hs2 : SortF ltS na G) (M : Model F G nb na n T) (hi : i < n) :
    Calls Try.prog 14 #[.slice a1 nb k1, .slice a2 na k2, .string (T i).2] w fun e w' => e = .returned (.int .i64 (T i).1) ∧ Hid ((T i).1 ≠ 0) ∧ ∃ q, w' = w.drewN q := by
  refine (classify_any a1 a2 nb na k1 k2 F G (T i).2 w h1 h2 hnb hna hs1 hs2).mono ?_
  rintro _ w' ⟨c, rfl, hc, q, rfl⟩
  have := ent_cls ordS hs1 hs2 (M.ent i hi) hc.out
  exact ⟨by rw [this.1], by rw [← this.1]; exact this.2, q, rfl⟩

end Go.Proofs.Qxb6603865a
