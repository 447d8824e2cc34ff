import Derived.Test.Qxb6603865aDiff
import Derived.Test.Qxb6603865aSorted
namespace Go.Proofs.Qxb6603865a
open Go.RowKit

theorem found_yes {n : Nat} {F : Nat → FileR} {p : ByteArray} {lo : Nat} (h : Hid (Found n F p lo true)) : lo < n ∧ (F lo).path = p := h.out.1 rfl
theorem found_not {n : Nat} {F : Nat → FileR} {p : ByteArray} {lo : Nat} (h : Hid (Found n F p lo false)) : ¬ InF n F p := h.out.2 rfl

set_option maxHeartbeats 2000000 in
theorem classify_any (a1 a2 : Option Addr) (nb na k1 k2 : Nat) (F G : Nat → FileR) (p : ByteArray) (w : World) (h1 : RowF w a1 nb F) (h2 : RowF w a2 na G) (hnb : nb ≤ 1048576) (hna : na ≤ 1048576) (hs1 : SortF ltS nb F) (hs2 : SortF ltS na G) :
    Calls Try.prog 14 #[.slice a1 nb k1, .slice a2 na k2, .string p] w fun e w' => ∃ c : Int, e = .returned (.int .i64 c) ∧ Hid (Cls F G nb na p c) ∧ ∃ q, w.drewN q = w' := by
  have H1 : Hid (RowF w a1 nb F) := h1
  have H2 : Hid (RowF w a2 na G) := h2
  have S1 : Hid (SortF ltS nb F) := hs1
  have S2 : Hid (SortF ltS na G) := hs2
  clear h1 h2 hs1 hs2
  go_enter Try.func14, Try.ntmps14
  go_wp2_with fail
  refine (findPath_any a1 nb k1 F p _ H1.out hnb S1.out).mono ?_
  rintro _ _ ⟨i, ok1, rfl, hi, HF1, rfl⟩
  go_wp2_with fail
  refine (findPath_any a2 na k2 G p _ H2.out hna S2.out).mono ?_
  rintro _ _ ⟨j, ok2, rfl, hj, HF2, rfl⟩
  cases ok1 with
  | false =>
    cases ok2 with
    | false =>
      go_wp2
      go_ret
      exact ⟨0, rfl, .inr (.inr (.inr ⟨rfl, .inl ⟨found_not HF1, found_not HF2⟩⟩)), 0, rfl⟩
    | true =>
      go_wp2
      go_ret
      exact ⟨1, rfl, .inl ⟨rfl, ⟨j, found_yes HF2⟩, found_not HF1⟩, 0, rfl⟩
  | true =>
    cases ok2 with
    | false =>
      go_wp2
      go_ret
      exact ⟨2, rfl, .inr (.inl ⟨rfl, ⟨i, found_yes HF1⟩, found_not HF2⟩), 0, rfl⟩
    | true =>
      have y1 := found_yes HF1
      have y2 := found_yes HF2
      have hi' := y1.1
      have hj' := y2.1
      have P1 : Hid ((F i).path = p) := y1.2
      have P2 : Hid ((G j).path = p) := y2.2
      clear y1 y2
      obtain ⟨⟨b, off, rfl, f0, f1, f2, f3⟩, _⟩ := H1.out i hi'
      obtain ⟨⟨c, o2, rfl, g0, g1, g2, g3⟩, _⟩ := H2.out j hj'
      clear f0 f2 g0 g2
      cases hs : sameF (F i) (G j) with
      | true =>
        have hs1 := sameF_yes hs
        have hsA : (!(F i).sha.toList == (G j).sha.toList) = false := by rw [hs1.1]; simp
        have hsB : ((F i).mode != (G j).mode) = false := by rw [hs1.2]; simp
        clear hs1
        go_wp2_with fail
        go_quiet (fail)
        go_wp2
        go_ret
        exact ⟨0, rfl, .inr (.inr (.inr ⟨rfl, .inr ⟨i, j, hi', hj', P1.out, P2.out, hs⟩⟩)), _, rfl⟩
      | false =>
        rcases sameF_no hs with hsA | ⟨hsA, hsB⟩
        · go_wp2_with fail
          go_quiet (fail)
          go_wp2
          go_ret
          exact ⟨3, rfl, .inr (.inr (.inl ⟨rfl, i, j, hi', hj', P1.out, P2.out, hs⟩)), _, rfl⟩
        · go_wp2_with fail
          go_quiet (fail)
          go_wp2
          go_ret
          exact ⟨3, rfl, .inr (.inr (.inl ⟨rfl, i, j, hi', hj', P1.out, P2.out, hs⟩)), _, rfl⟩

end Go.Proofs.Qxb6603865a
