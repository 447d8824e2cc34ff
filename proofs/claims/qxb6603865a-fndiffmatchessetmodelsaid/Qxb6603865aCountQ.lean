import Derived.Test.Qxb6603865aClass
namespace Go.Proofs.Qxb6603865a
open Go.RowKit

theorem RowF.drewN {w : World} {a : Option Addr} {n : Nat} {F : Nat → FileR} (h : RowF w a n F) (k : Nat) : RowF (w.drewN k) a n F := h

section
variable {F G : Nat → FileR} {nb na : Nat}
theorem qa_out {j : Nat} (h : ¬ InF nb F (G j).path) : QA F G nb j := fun ⟨i, hi, e, _⟩ => h ⟨i, hi, e⟩
theorem qa_not {i j : Nat} (hi : i < nb) (e : (F i).path = (G j).path) (h : sameF (F i) (G j) = true) : ¬ QA F G nb j := fun q => q ⟨i, hi, e, h⟩
theorem qa_diff {i j : Nat} (hs : SortF ltS nb F) (hi : i < nb) (e : (F i).path = (G j).path) (h : sameF (F i) (G j) = false) : QA F G nb j := by
  rintro ⟨k, hk, e2, h2⟩
  have := one_place ordS hs hi hk (e.trans e2.symm)
  subst this
  rw [h] at h2
  exact Bool.noConfusion h2
theorem qr_not {i j : Nat} (hj : j < na) (e : (G j).path = (F i).path) : ¬ QR F G na i := fun q => q ⟨j, hj, e⟩

open Classical in
theorem cntU_yes {P : Nat → Prop} {m c : Nat} (h : c = cntU P m) (hp : P m) : c + 1 = cntU P (m + 1) := by
  rw [cntU, if_pos hp, h]
open Classical in
theorem cntU_no {P : Nat → Prop} {m c : Nat} (h : c = cntU P m) (hp : ¬ P m) : c = cntU P (m + 1) := by
  rw [cntU, if_neg hp, h, Nat.add_zero]
end

open Classical in
set_option maxHeartbeats 4000000 in
theorem countQ_any (a1 a2 : Option Addr) (nb na k1 k2 : Nat) (F G : Nat → FileR) (w : World) (h1 : RowF w a1 nb F) (h2 : RowF w a2 na G) (hnb : nb ≤ 1048576) (hna : na ≤ 1048576) (hs1 : SortF ltS nb F) (hs2 : SortF ltS na G) :
    Calls Try.prog 15 #[.slice a1 nb k1, .slice a2 na k2] w fun e w' => ∃ c : Nat, e = .returned (.int .i64 c) ∧ Hid (c = cntU (QA F G nb) na + cntU (QR F G na) nb) ∧ ∃ q, w.drewN q = w' := by
  have H1 : Hid (RowF w a1 nb F) := h1
  have H2 : Hid (RowF w a2 na G) := h2
  have S1 : Hid (SortF ltS nb F) := hs1
  have S2 : Hid (SortF ltS na G) := hs2
  clear h1 h2 hs1 hs2
  go_enter Try.func15, Try.ntmps15
  go_wp2
  go_loopg [5, 6] na (fun g s t wr => ∃ c j q : Nat, s = .int .i64 c ∧ t = .int .i64 j ∧ g = na - j ∧ j ≤ na ∧ c ≤ j ∧ wr = w.drewN q ∧ Hid (c = cntU (QA F G nb) j))
  case atStart => exact ⟨0, 0, 0, rfl, rfl, rfl, Nat.zero_le _, Nat.le_refl _, rfl, rfl⟩
  case round =>
    obtain ⟨c, j, q, rfl, rfl, hg, hj, hcj, rfl, HC⟩ := hrel
    have HG : Hid (gk = na - j) := hg
    clear hg
    by_cases hlt : j < na
    · obtain ⟨⟨b2, o2, rfl, g0, g1, g2, g3⟩, _⟩ := H2.out j hlt
      clear g2
      go_wp2_with fail
      refine (findPath_any a1 nb k1 F _ _ (H1.out.drewN q) hnb S1.out).mono ?_
      rintro _ _ ⟨i, ok, rfl, hi, HF, rfl⟩
      cases ok with
      | false =>
        go_wp2_with fail
        go_quiet (fail)
        go_wp2
        go_roundg (na - (j + 1))
        case rel => exact ⟨c + 1, j + 1, _, by go_num, by go_num, rfl, by omega, by omega, rfl, cntU_yes HC.out (qa_out (found_not HF))⟩
        case measure => rw [HG.out]; omega
      | true =>
        have y := found_yes HF
        have hi' := y.1
        have P1 : Hid ((F i).path = (G j).path) := y.2
        clear y
        obtain ⟨⟨b1, o1, rfl, f0, f1, f2, f3⟩, _⟩ := H1.out i hi'
        clear f0 f2 g0
        cases hs : sameF (F i) (G j) with
        | true =>
          have hs1 := sameF_yes hs
          have hsA : (!(F i).sha.toList == (G j).sha.toList) = false := by rw [hs1.1]; simp
          have hsB : ((F i).mode != (G j).mode) = false := by rw [hs1.2]; simp
          clear hs1
          go_wp2_with fail
          go_quiet (fail)
          go_wp2
          go_roundg (na - (j + 1))
          case rel => exact ⟨c, j + 1, _, rfl, by go_num, rfl, by omega, by omega, rfl, cntU_no HC.out (qa_not hi' P1.out hs)⟩
          case measure => rw [HG.out]; omega
        | false =>
          rcases sameF_no hs with hsA | ⟨hsA, hsB⟩
          · go_wp2_with fail
            go_quiet (fail)
            go_wp2
            go_roundg (na - (j + 1))
            case rel => exact ⟨c + 1, j + 1, _, by go_num, by go_num, rfl, by omega, by omega, rfl, cntU_yes HC.out (qa_diff S1.out hi' P1.out hs)⟩
            case measure => rw [HG.out]; omega
          · go_wp2_with fail
            go_quiet (fail)
            go_wp2
            go_roundg (na - (j + 1))
            case rel => exact ⟨c + 1, j + 1, _, by go_num, by go_num, rfl, by omega, by omega, rfl, cntU_yes HC.out (qa_diff S1.out hi' P1.out hs)⟩
            case measure => rw [HG.out]; omega
    · have ej : j = na := by omega
      subst ej
      go_wp2
      go_loopg [5, 9] nb (fun g s t wr => ∃ d i q : Nat, s = .int .i64 (c + d : Nat) ∧ t = .int .i64 i ∧ g = nb - i ∧ i ≤ nb ∧ d ≤ i ∧ wr = w.drewN q ∧ Hid (d = cntU (QR F G j) i))
      case atStart => exact ⟨0, 0, q, rfl, rfl, rfl, Nat.zero_le _, Nat.le_refl _, rfl, rfl⟩
      case round =>
        obtain ⟨d, i, q', rfl, rfl, hg, hi, hdi, rfl, HD⟩ := hrel
        have HG' : Hid (gk = nb - i) := hg
        clear hg
        by_cases hli : i < nb
        · obtain ⟨⟨b1, o1, rfl, f0, f1, f2, f3⟩, _⟩ := H1.out i hli
          clear f1 f2 f3
          go_wp2_with fail
          refine (findPath_any a2 j k2 G _ _ (H2.out.drewN q') hna S2.out).mono ?_
          rintro _ _ ⟨l, ok, rfl, hl, HF, rfl⟩
          cases ok with
          | false =>
            go_wp2
            go_roundg (nb - (i + 1))
            case rel => exact ⟨d + 1, i + 1, _, by go_num, by go_num, rfl, by omega, by omega, rfl, cntU_yes HD.out (found_not HF)⟩
            case measure => rw [HG'.out]; omega
          | true =>
            go_wp2
            go_roundg (nb - (i + 1))
            case rel => exact ⟨d, i + 1, _, rfl, by go_num, rfl, by omega, by omega, rfl, cntU_no HD.out (qr_not (found_yes HF).1 (found_yes HF).2)⟩
            case measure => rw [HG'.out]; omega
        · have ei : i = nb := by omega
          subst ei
          go_wp2
          go_ret
          exact ⟨c + d, rfl, (by rw [HC.out, HD.out] : c + d = _), _, rfl⟩

end Go.Proofs.Qxb6603865a
