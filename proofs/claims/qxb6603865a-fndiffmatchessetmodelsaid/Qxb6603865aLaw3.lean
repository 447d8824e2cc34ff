import Derived.Test.Qxb6603865aDiffLaw
import Derived.Test.Qxb6603865aBytes8
import Derived.Test.Qxb6603865aArgvSame
import Derived.Deep.RegionHeld3
namespace Go.Proofs.Qxb6603865a
open Go.RowKit

set_option maxRecDepth 8000 in
set_option maxHeartbeats 8000000 in
theorem law3_is (fp tp : Option Addr) (bl nb cl na : Nat) (B C : Nat → ByteArray) (F G : Nat → FileR) (w : World) (h1 : FromAt w fp bl B nb F) (h2 : FromAt w tp cl C na G)
    (kb : bl ≤ maxLen) (kn : nb ≤ maxLen) (kc : cl ≤ maxLen) (ka : na ≤ maxLen) :
    Calls Try.prog 3 #[.pointer fp, .pointer tp] w fun e w' => e = .returned (.bool true) ∧ Below w.heap.size w w' := by
  have H1 : Hid (FromAt w fp bl B nb F) := h1
  have H2 : Hid (FromAt w tp cl C na G) := h2
  have KZ : Hid ((bl ≤ maxLen ∧ nb ≤ maxLen) ∧ cl ≤ maxLen ∧ na ≤ maxLen) := ⟨⟨kb, kn⟩, kc, ka⟩
  clear h1 h2 kb kn kc ka
  go_enter Try.func3, Try.ntmps3
  go_wp2_with fail
  refine (bytes8_any fp tp bl nb cl na B C F G w H1.out H2.out KZ.out.1.1 KZ.out.1.2 KZ.out.2.1 KZ.out.2.2).mono ?_
  rintro _ _ ⟨⟨rr, rfl, hr⟩, rfl⟩
  clear KZ
  cases rr
  · clear hr
    go_wp2
    go_ret
    exact ⟨rfl, Below.refl _ _⟩
  obtain ⟨⟨hbl, hnb, sb⟩, hcl, hna, sc⟩ := hr rfl
  have SB : Hid (∀ j, j < bl → (B j).size ≤ 1048576) := sb
  have SC : Hid (∀ j, j < cl → (C j).size ≤ 1048576) := sc
  clear hr sb sc
  go_wp2_with fail
  refine (manifestSize_from 0 fp bl nb B F w H1.out (by omega) (by omega) hbl hnb).mono ?_
  rintro _ _ ⟨m1, rfl, hm1, rfl⟩
  go_wp2_with fail
  refine (manifestSize_from m1 tp cl na C G w H2.out hm1.1 hm1.2 hcl hna).mono ?_
  rintro _ _ ⟨m2, rfl, hm2, rfl⟩
  clear hm1
  by_cases hbig : 1048576 < m2
  · go_wp2
    go_ret
    exact ⟨rfl, Below.refl _ _⟩
  rcases H2.out with ⟨rfl, -, -⟩ | ⟨pb, po, s0, s1, s2, s3, s4, ca, cc, fa, fc, rfl, hM⟩
  · go_wp2
    go_ret
    exact ⟨rfl, Below.refl _ _⟩
  have HM : Hid (ManAt w pb po s0 s1 s2 s3 s4 ca cl cc C fa na fc G) := hM
  clear hM H2
  go_upto_if 27 with fail
  go_cut [6, 7] (fun s t wx => ∃ a1 k1 a2 k2, s = .slice a1 nb k1 ∧ t = .slice a2 bl k2 ∧ w = wx ∧ Hid (RowF w a1 nb F) ∧ Hid (RowS w a2 bl B))
  case first =>
    rcases H1.out with ⟨rfl, rfl, rfl⟩ | ⟨qb, qo, t0, t1, t2, t3, t4, ea, ec, ga, gc, rfl, hN⟩
    · go_wp2
      go_meet
      case rel => exact ⟨_, _, _, _, rfl, rfl, rfl, fun i hi => absurd hi (Nat.not_lt_zero i), fun i hi => absurd hi (Nat.not_lt_zero i)⟩
    · have e5 := hN.c5
      have e6 := hN.c6
      have HN : Hid (ManAt w qb qo t0 t1 t2 t3 t4 ea bl ec B ga nb gc F) := hN
      clear hN
      go_wp2
      go_meet
      case rel => exact ⟨_, _, _, _, rfl, rfl, rfl, HN.out.F, HN.out.C⟩
  case rest =>
    obtain ⟨a1, k1, a2, k2, rfl, rfl, rfl, RF, RB⟩ := hcut
    have d6 := HM.out.c6
    have RG : Hid (RowF w fa na G) := HM.out.F
    go_wp2_with fail
    refine (strictlySorted_any a1 nb k1 F w RF.out hnb).mono ?_
    rintro _ _ ⟨r1, rfl, hr1, q1, rfl⟩
    cases r1
    · go_wp2
      go_ret
      exact ⟨rfl, below_drewN (Below.refl _ _) _⟩
    have S1 : Hid (SortF ltS nb F) := hr1.out rfl
    clear hr1
    go_wp2_with fail
    refine (strictlySorted_any fa na fc G (w.drewN q1) (RG.out.drewN q1) hna).mono ?_
    rintro _ _ ⟨r2, rfl, hr2, q2, rfl⟩
    cases r2
    · go_wp2
      go_ret
      exact ⟨rfl, below_drewN (Below.refl _ _) _⟩
    have S2 : Hid (SortF ltS na G) := hr2.out rfl
    clear hr2
    obtain ⟨w0, hw0⟩ : ∃ w0, w0 = w.drewN (q1 + q2) := ⟨_, rfl⟩
    have B0 : Hid (Below w.heap.size w w0) := by rw [hw0]; exact below_drewN (Below.refl _ _) _
    rw [World.drewN_drewN, ← hw0]
    clear hw0
    have H10 : Hid (FromAt w0 fp bl B nb F) := H1.out.later B0.out
    have HM0 : Hid (ManAt w0 pb po s0 s1 s2 s3 s4 ca cl cc C fa na fc G) := HM.out.later B0.out
    have RF0 : Hid (RowF w0 a1 nb F) := RF.out.later B0.out
    have RB0 : Hid (RowS w0 a2 bl B) := RB.out.later B0.out
    clear H1 HM RF RB RG d6
    go_wp2_with fail
    refine (toBundle_from fp bl nb B F w0 H10.out hbl hnb).mono ?_
    rintro _ w2 ⟨gp, rfl, hf2, b2⟩
    have B2 : Hid (Below w.heap.size w w2) := B0.out.trans (b2.mono B0.out.size)
    have HF2 : Hid (FromAt w2 gp bl B nb F) := hf2
    have HM2 : Hid (ManAt w2 pb po s0 s1 s2 s3 s4 ca cl cc C fa na fc G) := HM0.out.later b2
    have RF2 : Hid (RowF w2 a1 nb F) := RF0.out.later b2
    have RB2 : Hid (RowS w2 a2 bl B) := RB0.out.later b2
    clear hf2 b2 H10 HM0 RF0 RB0 B0
    go_wp2_with fail
    refine (toBundle_any pb po s0 s1 s2 s3 s4 ca cl cc C fa na fc G w2 HM2.out hcl hna).mono ?_
    rintro _ w3 ⟨qb, ca', cc', fa', fc', rfl, hman3, b3⟩
    have B3 : Hid (Below w.heap.size w w3) := B2.out.trans (b3.mono B2.out.size)
    have HF3 : Hid (FromAt w3 gp bl B nb F) := HF2.out.later b3
    have HN3 : Hid (ManAt w3 qb 0 s0 s1 s2 s3 s4 ca' cl cc' C fa' na fc' G) := hman3
    have HM3 : Hid (ManAt w3 pb po s0 s1 s2 s3 s4 ca cl cc C fa na fc G) := HM2.out.later b3
    have RF3 : Hid (RowF w3 a1 nb F) := RF2.out.later b3
    have RB3 : Hid (RowS w3 a2 bl B) := RB2.out.later b3
    clear hman3 b3 HF2 HM2 RF2 RB2 B2
    go_wp2_with fail
    refine (diff_model gp bl B nb F qb 0 s0 s1 s2 s3 s4 ca' cl cc' C fa' na fc' G w3 HF3.out HN3.out hbl hnb hcl hna S1.out S2.out).mono ?_
    rintro _ w4 ⟨va, n, vc, T, r, rfl, hr, hrow, hn, MO, hnil, b4⟩
    have B4 : Hid (Below w.heap.size w w4) := B3.out.trans (b4.mono B3.out.size)
    have HM4 : Hid (ManAt w4 pb po s0 s1 s2 s3 s4 ca cl cc C fa na fc G) := HM3.out.later b4
    have RF4 : Hid (RowF w4 a1 nb F) := RF3.out.later b4
    have RB4 : Hid (RowS w4 a2 bl B) := RB3.out.later b4
    have RT4 : Hid (RowT w4 va n T) := hrow
    have HNIL : Hid (n = 0 → va = none ∧ vc = 0) := hnil
    clear hrow hnil b4 HF3 HN3 HM3 RF3 RB3 B3
    go_upto_region 18 with fail
    obtain ⟨W, hW⟩ : ∃ W, W = w4.alloc (.cells #[.slice va n vc, .bool (!r)] 32) := ⟨_, rfl⟩
    have bW : Below w4.heap.size w4 W := by rw [hW]; exact below1 _ _
    have q0 : W.cell? ⟨w4.heap.size, 0, none⟩ = some (.slice va n vc) := by rw [hW]; simp
    have q1 : W.cell? ⟨w4.heap.size, 1, none⟩ = some (.bool (!r)) := by rw [hW]; simp
    rw [← hW]
    clear hW
    have hbox : ∃ g, g = w4.heap.size := ⟨_, rfl⟩
    have B5 : Hid (Below w.heap.size w W) := B4.out.trans (bW.mono B4.out.size)
    have HM5 : Hid (ManAt W pb po s0 s1 s2 s3 s4 ca cl cc C fa na fc G) := HM4.out.later bW
    have RF5 : Hid (RowF W a1 nb F) := RF4.out.later bW
    have RB5 : Hid (RowS W a2 bl B) := RB4.out.later bW
    have RT5 : Hid (RowT W va n T) := RT4.out.later bW
    have q5 := HM5.out.c5
    clear B4 HM4 RF4 RB4 RT4 bW hbox
    go_cut [61] (fun s wx => s = .bool false ∧ Below W.heap.size W wx)
    case first =>
      go_region_held3 (fun w' => w'.cell? ⟨w4.heap.size, 1, none⟩ = some (.bool (!r)) ∧ w'.cell? ⟨pb, po + 5, none⟩ = some (.slice ca cl cc)) (first | go_keep | exact ⟨cell_later b5 q1, cell_later b5 q5⟩) ((go_at_call 13; refine (argvSame_any a2 ca bl k2 cl cc B C _ (RB5.out.drewN _) (HM5.out.C.drewN _) hbl hcl SB.out SC.out).mono ?_; rintro _ w5 ⟨r2, rfl, e2, b5⟩; have t2 : r = r2 := by { rw [Bool.eq_iff_iff, e2.out, hr.out] }; subst t2))
      go_wp2
      go_meet
      case rel => exact ⟨by cases r <;> rfl, (below_drewN (Below.refl W.heap.size W) _).trans b5⟩
    case rest =>
      obtain ⟨rfl, b6⟩ := hcut
      have p0 : wc.cell? ⟨w4.heap.size, 0, none⟩ = some (.slice va n vc) := cell_later b6 q0
      have B6 : Hid (Below w.heap.size w wc) := B5.out.trans (b6.mono B5.out.size)
      have RF6 : Hid (RowF wc a1 nb F) := RF5.out.later b6
      have RG6 : Hid (RowF wc fa na G) := HM5.out.F.later b6
      have RT6 : Hid (RowT wc va n T) := RT5.out.later b6
      have hq : ∀ w, (binOp .neq 30 (.slice va n vc) (.slice none 0 0)).run Try.prog w = .ok (.bool (!va.isNone)) w := fun w => run_neq_slice_nil_any (P := Try.prog) w 30 39 va n vc 0 0 Try.underlying30
      clear B5 HM5 RF5 RB5 RT5 b6 q0 q1 q5 hr SB SC
      go_upto_region 20 with fail
      go_cut [70] (fun s wx => s = .bool false ∧ wc = wx)
      case first =>
        by_cases h0 : n = 0
        · obtain ⟨hva, hvc⟩ := HNIL.out h0
          subst h0 hva hvc
          go_wp2
          go_meet
          case rel => exact ⟨rfl, rfl⟩
        · have hg : ((n : Int) == 0) = false := by simpa using h0
          go_wp2
          go_meet
          case rel => exact ⟨rfl, rfl⟩
      case rest =>
        obtain ⟨rfl, rfl⟩ := hcut
        clear hq HNIL
        go_wp2
        go_loopg [10] n (fun g t wr => ∃ m q : Nat, t = .int .i64 (m + 1 : Nat) ∧ g = n - m ∧ m ≤ n ∧ wr = wc.drewN q)
        case atStart => exact ⟨0, 0, rfl, rfl, Nat.zero_le _, rfl⟩
        case round =>
          obtain ⟨m, q, rfl, hg, hm, rfl⟩ := hrel
          have HG : Hid (gk = n - m) := hg
          clear hg
          by_cases hlt : m + 1 < n
          · obtain ⟨b, off, rfl, f0, f1⟩ := RT6.out m (by omega)
            obtain ⟨b', off', e, g0, g1⟩ := RT6.out (m + 1) hlt
            cases e
            clear f0 g0
            have hl := MO.out.asc m hlt
            go_wp2_with fail
            go_quiet (fail)
            go_wp2
            go_roundg (n - (m + 1))
            case rel => exact ⟨m + 1, _, by go_num, rfl, by omega, rfl⟩
            case measure => rw [HG.out]; omega
          · clear HG
            go_wp2
            go_loopg [11] n (fun g t wr => ∃ i q : Nat, t = .int .i64 i ∧ g = n - i ∧ i ≤ n ∧ wr = wc.drewN q)
            case atStart => exact ⟨0, q, rfl, rfl, Nat.zero_le _, rfl⟩
            case round =>
              clear hlt hm
              obtain ⟨i, q', rfl, hg, hi, rfl⟩ := hrel
              have HG : Hid (gk = n - i) := hg
              clear hg
              by_cases hlt : i < n
              · obtain ⟨b, off, rfl, f0, f1⟩ := RT6.out i hlt
                go_wp2_with fail
                refine (classify_is a1 fa nb na k1 fc n i F G T _ (RF6.out.drewN q') (RG6.out.drewN q') hnb hna S1.out S2.out MO.out hlt).mono ?_
                rintro _ _ ⟨rfl, hz, q3, rfl⟩
                have hz1 : ((T i).1 == 0) = false := by simpa using hz.out
                have hz2 : ((T i).1 != (T i).1) = false := by simp
                go_wp2
                go_roundg (n - (i + 1))
                case rel => exact ⟨i + 1, _, by go_num, rfl, by omega, rfl⟩
                case measure => rw [HG.out]; omega
              · have ei : i = n := by omega
                subst ei
                have hcq : ∀ k, Calls Try.prog 15 #[.slice a1 nb k1, .slice fa na fc] (wc.drewN (q' + k)) fun e w' => e = .returned (.int .i64 i) ∧ ∃ q, w' = wc.drewN (q' + q) := fun k =>
                  (countQ_is a1 fa nb na k1 fc i F G T _ (RF6.out.drewN _) (RG6.out.drewN _) hnb hna S1.out S2.out MO.out).mono fun _ _ ⟨he, q, hw⟩ => ⟨he, k + q, by rw [hw, World.drewN_drewN, Nat.add_assoc]⟩
                go_wp2_with fail
                go_quiet (first | (go_at_call 15; exact hcq _))
                go_wp2
                go_ret
                exact ⟨rfl, below_drewN (below_drewN B6.out _) _⟩

end Go.Proofs.Qxb6603865a
