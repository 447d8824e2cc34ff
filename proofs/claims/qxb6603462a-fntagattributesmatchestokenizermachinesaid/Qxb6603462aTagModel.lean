import Derived.Test.Qxb6603462aTagRoundA
import Derived.Test.Qxb6603462aTagRoundB
import Derived.Test.Qxb6603462aTagRoundC
import Derived.Test.Qxb6603462aTagRoundD
import Derived.Test.Qxb6603462aTagRoundE
import Derived.Deep.CutBlock
import Derived.Deep.DeepCutAuto
namespace Go.Proofs.Qxb6603462a.TagModel
open Go.RowKit Go.Proofs.Qxb6603462a.Use

set_option maxRecDepth 20000 in
set_option maxHeartbeats 20000000 in
theorem model_is (a : Option Addr) (n c : Nat) (f : Nat → Int) (w : World) (hr : Row8 w a n f) (hn : n ≤ 1048576) (p0 : Nat) (h0 : Hid (p0 = min 2 n)) (total : List At) (ht : Hid (tagT f n (skipTo tn f n p0) = total)) :
    Calls Try.prog 18 #[.slice a n c] w fun r w' => ∃ v, r = .returned v ∧ w'.ownsRow w.heap.size 25 6 v total.length (flatA total) ∧ (total = [] → v = .slice none 0 0) ∧ Below w.heap.size w w' := by
  obtain ⟨ti, hi, hz0, hz1, hz2⟩ := info_parts info25
  have HR : Hid (Row8 w a n f) := hr
  clear hr
  go_enter Try.func18, Try.ntmps18
  go_upto_block 0 with fail
  go_cut [7, 8] (fun r t wx => r = .int .i64 (back f p0) ∧ t = .int .i64 p0 ∧ w.alloc (.cells #[.int .i64 0, .int .i64 0, .int .i64 0, .int .i64 0, .int .i64 0, .int .i64 0] 25) = wx)
  case first =>
    go_wp2
    go_loop [7, 8] (fun r t => ∃ p : Nat, r = .int .i64 (back f p) ∧ t = .int .i64 p ∧ p ≤ 2 ∧ p ≤ n) (fun _ t => n - (intOf t).toNat)
    case atStart => exact ⟨0, rfl, rfl, by omega, by omega⟩
    case round =>
      obtain ⟨p, rfl, rfl, hp2, hpn⟩ := hrel
      by_cases h2 : p < 2
      · by_cases hlt : p < n
        · obtain ⟨b, off, rfl, hc⟩ := HR.out p hlt
          have hcb := cell_lt hc
          cases hs : sp (f p)
          · go_wp2_with (first | (go_at_call 13; refine (zzSp_eq _ _).mono ?_; rintro _ _ ⟨rfl, rfl⟩))
            go_round
            case rel => exact ⟨p + 1, by rw [back_other f p hs]; go_num, by go_num, by omega, by omega⟩
            case measure => simp [intOf]; omega
          · go_wp2_with (first | (go_at_call 13; refine (zzSp_eq _ _).mono ?_; rintro _ _ ⟨rfl, rfl⟩))
            go_round
            case rel => exact ⟨p + 1, by rw [back_space f p hs], by go_num, by omega, by omega⟩
            case measure => simp [intOf]; omega
        · have HZ : Hid (p = p0) := by rw [h0.out]; show p = _; omega
          go_wp2
          go_meet
          case rel => exact ⟨by rw [HZ.out], by rw [HZ.out], rfl⟩
      · have HZ : Hid (p = p0) := by rw [h0.out]; show p = _; omega
        go_wp2
        go_meet
        case rel => exact ⟨by rw [HZ.out], by rw [HZ.out], rfl⟩
  case rest =>
    obtain ⟨rfl, rfl, rfl⟩ := hcut
    have hpn : p0 ≤ n := by rw [h0.out]; omega
    go_wp2
    go_loopg [3, 5, 6, 7, 8] (3 * (n - p0) + 1) (fun g v qv sv r t wr => Rel f n total w g v qv sv r t wr)
    case atStart => exact ⟨0, ⟨0, 0, 0, 0, 0, 0⟩, 0, p0, [], rfl, rfl, rfl, rfl, rfl, ⟨(Below.refl _ _).alloc (Nat.le_refl _) _, heap_alloc_at _ _, World.ownsRow_nil _ _ _ _, fun _ => rfl⟩, ⟨by decide, by decide⟩, hpn, ⟨fun _ => Nat.zero_le _, fun h => by omega⟩, ht⟩
    case round =>
      rename_i J0 K0 hJ0 hK0
      obtain ⟨s, x, q, p, L, rfl, rfl, rfl, rfl, hg, hms, hs6, hp, hL, HT⟩ := hrel
      have MS : Hid (MSt w.heap.size w wr x u3 L) := hms
      have HW : Hid (Row8 wr a n f) := HR.out.later hms.below
      rcases (show s = 0 ∨ s = 1 ∨ s = 2 ∨ s = 3 ∨ s = 4 ∨ s = 5 ∨ s = 6 by omega) with rfl | rfl | rfl | rfl | rfl | rfl | rfl
      · have HG : Hid (gk = 3 * (n - p) + 1) := hg
        have hL1 : L.length ≤ p := by omega
        clear hg hL hs6
        by_cases hlt : p < n
        · refine round0 a n c f w wr HR.out hn total x q p L _ _ _ _ _ _ _ _ _ _ _ _ _ _ _ _ _ _ _ _ _ _ _ _ _ _ _ _ _ _ _ _ _ _ _ _ _ _ _ _ _ _ _ _ _ _ _ _ _ _ _ _ _ _ _ _ _ _ _ _ _ _ _ _ _ _ _ _ _ _ _ _ _ _ _ _ _ _ _ _ _ _ _ _ _ _ _ _ _ _ _ _ _ _ _ _ _ _ _ _ _ _ _ _ _ _ _ _ _ _ _ _ _ _ _ _ _ _ _ _ _ _ _ _ _ _ _ _ _ _ _ _ _ _ _ _ _ _ _ _ _ _ _ _ _ _ _ _ _ _ _ _ _ _ _ _ _ _ _ _ _ _ _ _ _ _ _ _ _ _ _ _ _ _ _ _ _ _ _ _ _ _ _ _ _ _ _ _ _ _ _ _ _ _ _ gk HG hms hlt hL1 HT J0 _ _ ?_ hK0
          intros
          refine hJ0 _ _ _ ?_
          (repeat apply Exists.intro)
          refine ⟨?_, rfl⟩
          assumption
        · obtain ⟨c0, c1, c2, c3, c4, c5⟩ := hms.cells
          have hfz := hms.warm
          clear hms ht h0 hpn
          have HZ : Hid (L = total) := end_ HT.out (come0_past f n p x q (by omega))
          clear HT
          go_wp2
          go_ret
          have e := HZ.out
          subst e
          exact ⟨_, rfl, ownsRow_low MS.out.own (Nat.le_succ _), MS.out.nil, MS.out.below⟩
      · have HG : Hid (gk = 3 * (n - p) + 0) := hg
        have hL1 : L.length ≤ p := by omega
        clear hg hL hs6
        by_cases hlt : p < n
        · cases h62 : (f p == 62)
          · refine round1 a n c f w wr HR.out hn total x q p L _ _ _ _ _ _ _ _ _ _ _ _ _ _ _ _ _ _ _ _ _ _ _ _ _ _ _ _ _ _ _ _ _ _ _ _ _ _ _ _ _ _ _ _ _ _ _ _ _ _ _ _ _ _ _ _ _ _ _ _ _ _ _ _ _ _ _ _ _ _ _ _ _ _ _ _ _ _ _ _ _ _ _ _ _ _ _ _ _ _ _ _ _ _ _ _ _ _ _ _ _ _ _ _ _ _ _ _ _ _ _ _ _ _ _ _ _ _ _ _ _ _ _ _ _ _ _ _ _ _ _ _ _ _ _ _ _ _ _ _ _ _ _ _ _ _ _ _ _ _ _ _ _ _ _ _ _ _ _ _ _ _ _ _ _ _ _ _ _ _ _ _ _ _ _ _ _ _ _ _ _ _ _ _ _ _ _ _ _ _ _ _ _ _ _ gk HG hms hlt hL1 HT h62 J0 _ _ ?_ hK0
            intros
            refine hJ0 _ _ _ ?_
            (repeat apply Exists.intro)
            refine ⟨?_, rfl⟩
            assumption
          · obtain ⟨b, off, rfl, hc⟩ := HW.out p hlt
            clear hms ht h0 hpn
            have HZ : Hid (L = total) := end_ HT.out (come1_gt f n p x q hlt h62)
            clear HT
            go_wp2_with (first | (go_at_call 13; refine (zzSp_eq _ _).mono ?_; rintro _ _ ⟨rfl, rfl⟩))
            go_ret
            have e := HZ.out
            subst e
            exact ⟨_, rfl, ownsRow_low MS.out.own (Nat.le_succ _), MS.out.nil, MS.out.below⟩
        · obtain ⟨c0, c1, c2, c3, c4, c5⟩ := hms.cells
          have hfz := hms.warm
          clear hms ht h0 hpn
          have HZ : Hid (L = total) := end_ HT.out (come1_past f n p x q (by omega))
          clear HT
          go_wp2
          go_ret
          have e := HZ.out
          subst e
          exact ⟨_, rfl, ownsRow_low MS.out.own (Nat.le_succ _), MS.out.nil, MS.out.below⟩
      · have HG : Hid (gk = 3 * (n - p) + 2) := hg
        have hL1 : L.length + 1 ≤ p := by omega
        clear hg hL hs6
        by_cases hlt : p < n
        · refine round2 a n c f w wr HR.out hn total x q p L _ _ _ _ _ _ _ _ _ _ _ _ _ _ _ _ _ _ _ _ _ _ _ _ _ _ _ _ _ _ _ _ _ _ _ _ _ _ _ _ _ _ _ _ _ _ _ _ _ _ _ _ _ _ _ _ _ _ _ _ _ _ _ _ _ _ _ _ _ _ _ _ _ _ _ _ _ _ _ _ _ _ _ _ _ _ _ _ _ _ _ _ _ _ _ _ _ _ _ _ _ _ _ _ _ _ _ _ _ _ _ _ _ _ _ _ _ _ _ _ _ _ _ _ _ _ _ _ _ _ _ _ _ _ _ _ _ _ _ _ _ _ _ _ _ _ _ _ _ _ _ _ _ _ _ _ _ _ _ _ _ _ _ _ _ _ _ _ _ _ _ _ _ _ _ _ _ _ _ _ _ _ _ _ _ _ _ _ _ _ _ _ _ _ _ gk HG hms hlt hL1 HT J0 _ _ ?_ hK0
          intros
          refine hJ0 _ _ _ ?_
          (repeat apply Exists.intro)
          refine ⟨?_, rfl⟩
          assumption
        · obtain ⟨c0, c1, c2, c3, c4, c5⟩ := hms.cells
          have hfz := hms.warm
          clear hms ht h0 hpn
          have HZ : Hid (L ++ [(⟨x.s, x.n, p, p, p, p⟩ : At)] = total) := last_ HT.out (come2_past f n p x q (by omega))
          have MS2 : Hid (MSt w.heap.size w ((((wr.setCell ⟨w.heap.size, 2, none⟩ (.int .i64 p)).setCell ⟨w.heap.size, 3, none⟩ (.int .i64 p)).setCell ⟨w.heap.size, 4, none⟩ (.int .i64 p)).setCell ⟨w.heap.size, 5, none⟩ (.int .i64 p)) (⟨x.s, x.n, p, p, p, p⟩ : At) u3 L) := (((MS.out.s2 p).s3 p).s4 p).s5 p
          have HSZ : Hid (wr.heap.size = (((((wr.setCell ⟨w.heap.size, 2, none⟩ (.int .i64 p)).setCell ⟨w.heap.size, 3, none⟩ (.int .i64 p)).setCell ⟨w.heap.size, 4, none⟩ (.int .i64 p)).setCell ⟨w.heap.size, 5, none⟩ (.int .i64 p)) : World).heap.size) := by show _ = _; simp
          have HLT : Hid (w.heap.size < wr.heap.size) := MS.out.lt
          clear HT
          go_wp2_with (first | (go_at_call 13; refine (zzSp_eq _ _).mono ?_; rintro _ _ ⟨rfl, rfl⟩) | (at_builtin; refine wpList_append_own _ rfl _ _ 34 rfl (w.heap.size + 1) 25 ti (.agg #[.int .i64 0, .int .i64 0, .int .i64 0, .int .i64 0, .int .i64 0, .int .i64 0]) 6 48 Try.underlying34 hi hz0 hz1 hz2 rfl (by decide) _ _ _ rfl (MS2.out.own.alloc _) ⟨wr.heap.size, 0, none⟩ 1 1 [.int .i64 x.s, .int .i64 x.n, .int .i64 p, .int .i64 p, .int .i64 p, .int .i64 p] rfl rfl (cell_six_at _ _ (by first | rfl | exact HSZ.out) _ _ _ _ _ _ _) (one_six _ _ _ _ _ _) (by unfold maxLen; omega) (by omega) (size_later (B := wr.heap.size) (by first | rfl | exact HSZ.out) HLT.out _) ?_; intro v' w3 hown' hgrow3 hnil3))
          go_ret
          have e := HZ.out
          subst e
          have MS3 := MS2.out.appended (⟨x.s, x.n, p, p, p, p⟩ : At) hown' hgrow3
          exact ⟨_, rfl, ownsRow_low MS3.own (Nat.le_succ _), MS3.nil, MS3.below⟩
      · have HG : Hid (gk = 3 * (n - p) + 1) := hg
        have hL1 : L.length + 1 ≤ p := by omega
        clear hg hL hs6
        by_cases hlt : p < n
        · refine round3 a n c f w wr HR.out hn total x q p L _ _ _ _ _ _ _ _ _ _ _ _ _ _ _ _ _ _ _ _ _ _ _ _ _ _ _ _ _ _ _ _ _ _ _ _ _ _ _ _ _ _ _ _ _ _ _ _ _ _ _ _ _ _ _ _ _ _ _ _ _ _ _ _ _ _ _ _ _ _ _ _ _ _ _ _ _ _ _ _ _ _ _ _ _ _ _ _ _ _ _ _ _ _ _ _ _ _ _ _ _ _ _ _ _ _ _ _ _ _ _ _ _ _ _ _ _ _ _ _ _ _ _ _ _ _ _ _ _ _ _ _ _ _ _ _ _ _ _ _ _ _ _ _ _ _ _ _ _ _ _ _ _ _ _ _ _ _ _ _ _ _ _ _ _ _ _ _ _ _ _ _ _ _ _ _ _ _ _ _ _ _ _ _ _ _ _ _ _ _ _ _ _ _ _ gk HG hms hlt hL1 HT J0 _ _ ?_ hK0
          intros
          refine hJ0 _ _ _ ?_
          (repeat apply Exists.intro)
          refine ⟨?_, rfl⟩
          assumption
        · obtain ⟨c0, c1, c2, c3, c4, c5⟩ := hms.cells
          have hfz := hms.warm
          clear hms ht h0 hpn
          have HZ : Hid (L ++ [x] = total) := last_ HT.out (come3_past f n p x q (by omega))
          have MS2 : Hid (MSt w.heap.size w wr x u3 L) := MS.out
          have HSZ : Hid (wr.heap.size = (wr : World).heap.size) := by show _ = _; simp
          have HLT : Hid (w.heap.size < wr.heap.size) := MS.out.lt
          clear HT
          go_wp2_with (first | (go_at_call 13; refine (zzSp_eq _ _).mono ?_; rintro _ _ ⟨rfl, rfl⟩) | (at_builtin; refine wpList_append_own _ rfl _ _ 34 rfl (w.heap.size + 1) 25 ti (.agg #[.int .i64 0, .int .i64 0, .int .i64 0, .int .i64 0, .int .i64 0, .int .i64 0]) 6 48 Try.underlying34 hi hz0 hz1 hz2 rfl (by decide) _ _ _ rfl (MS2.out.own.alloc _) ⟨wr.heap.size, 0, none⟩ 1 1 [.int .i64 x.s, .int .i64 x.n, .int .i64 x.e, .int .i64 x.v, .int .i64 x.ve, .int .i64 x.en] rfl rfl (cell_six_at _ _ (by first | rfl | exact HSZ.out) _ _ _ _ _ _ _) (one_six _ _ _ _ _ _) (by unfold maxLen; omega) (by omega) (size_later (B := wr.heap.size) (by first | rfl | exact HSZ.out) HLT.out _) ?_; intro v' w3 hown' hgrow3 hnil3))
          go_ret
          have e := HZ.out
          subst e
          have MS3 := MS2.out.appended x hown' hgrow3
          exact ⟨_, rfl, ownsRow_low MS3.own (Nat.le_succ _), MS3.nil, MS3.below⟩
      · have HG : Hid (gk = 3 * (n - p) + 1) := hg
        have hL1 : L.length + 1 ≤ p := by omega
        clear hg hL hs6
        by_cases hlt : p < n
        · refine round4 a n c f w wr HR.out hn total x q p L _ _ _ _ _ _ _ _ _ _ _ _ _ _ _ _ _ _ _ _ _ _ _ _ _ _ _ _ _ _ _ _ _ _ _ _ _ _ _ _ _ _ _ _ _ _ _ _ _ _ _ _ _ _ _ _ _ _ _ _ _ _ _ _ _ _ _ _ _ _ _ _ _ _ _ _ _ _ _ _ _ _ _ _ _ _ _ _ _ _ _ _ _ _ _ _ _ _ _ _ _ _ _ _ _ _ _ _ _ _ _ _ _ _ _ _ _ _ _ _ _ _ _ _ _ _ _ _ _ _ _ _ _ _ _ _ _ _ _ _ _ _ _ _ _ _ _ _ _ _ _ _ _ _ _ _ _ _ _ _ _ _ _ _ _ _ _ _ _ _ _ _ _ _ _ _ _ _ _ _ _ _ _ _ _ _ _ _ _ _ _ _ _ _ _ gk HG hms hlt hL1 HT J0 _ _ ?_ hK0
          intros
          refine hJ0 _ _ _ ?_
          (repeat apply Exists.intro)
          refine ⟨?_, rfl⟩
          assumption
        · obtain ⟨c0, c1, c2, c3, c4, c5⟩ := hms.cells
          have hfz := hms.warm
          clear hms ht h0 hpn
          have HZ : Hid (L ++ [(⟨x.s, x.n, x.e, p, p, p⟩ : At)] = total) := last_ HT.out (come4_past f n p x q (by omega))
          have MS2 : Hid (MSt w.heap.size w (((wr.setCell ⟨w.heap.size, 3, none⟩ (.int .i64 p)).setCell ⟨w.heap.size, 4, none⟩ (.int .i64 p)).setCell ⟨w.heap.size, 5, none⟩ (.int .i64 p)) (⟨x.s, x.n, x.e, p, p, p⟩ : At) u3 L) := ((MS.out.s3 p).s4 p).s5 p
          have HSZ : Hid (wr.heap.size = ((((wr.setCell ⟨w.heap.size, 3, none⟩ (.int .i64 p)).setCell ⟨w.heap.size, 4, none⟩ (.int .i64 p)).setCell ⟨w.heap.size, 5, none⟩ (.int .i64 p)) : World).heap.size) := by show _ = _; simp
          have HLT : Hid (w.heap.size < wr.heap.size) := MS.out.lt
          clear HT
          go_wp2_with (first | (go_at_call 13; refine (zzSp_eq _ _).mono ?_; rintro _ _ ⟨rfl, rfl⟩) | (at_builtin; refine wpList_append_own _ rfl _ _ 34 rfl (w.heap.size + 1) 25 ti (.agg #[.int .i64 0, .int .i64 0, .int .i64 0, .int .i64 0, .int .i64 0, .int .i64 0]) 6 48 Try.underlying34 hi hz0 hz1 hz2 rfl (by decide) _ _ _ rfl (MS2.out.own.alloc _) ⟨wr.heap.size, 0, none⟩ 1 1 [.int .i64 x.s, .int .i64 x.n, .int .i64 x.e, .int .i64 p, .int .i64 p, .int .i64 p] rfl rfl (cell_six_at _ _ (by first | rfl | exact HSZ.out) _ _ _ _ _ _ _) (one_six _ _ _ _ _ _) (by unfold maxLen; omega) (by omega) (size_later (B := wr.heap.size) (by first | rfl | exact HSZ.out) HLT.out _) ?_; intro v' w3 hown' hgrow3 hnil3))
          go_ret
          have e := HZ.out
          subst e
          have MS3 := MS2.out.appended (⟨x.s, x.n, x.e, p, p, p⟩ : At) hown' hgrow3
          exact ⟨_, rfl, ownsRow_low MS3.own (Nat.le_succ _), MS3.nil, MS3.below⟩
      · have HG : Hid (gk = 3 * (n - p) + 0) := hg
        have hL1 : L.length + 1 ≤ p := by omega
        clear hg hL hs6
        by_cases hlt : p < n
        · refine round5 a n c f w wr HR.out hn total x q p L _ _ _ _ _ _ _ _ _ _ _ _ _ _ _ _ _ _ _ _ _ _ _ _ _ _ _ _ _ _ _ _ _ _ _ _ _ _ _ _ _ _ _ _ _ _ _ _ _ _ _ _ _ _ _ _ _ _ _ _ _ _ _ _ _ _ _ _ _ _ _ _ _ _ _ _ _ _ _ _ _ _ _ _ _ _ _ _ _ _ _ _ _ _ _ _ _ _ _ _ _ _ _ _ _ _ _ _ _ _ _ _ _ _ _ _ _ _ _ _ _ _ _ _ _ _ _ _ _ _ _ _ _ _ _ _ _ _ _ _ _ _ _ _ _ _ _ _ _ _ _ _ _ _ _ _ _ _ _ _ _ _ _ _ _ _ _ _ _ _ _ _ _ _ _ _ _ _ _ _ _ _ _ _ _ _ _ _ _ _ _ _ _ _ _ gk HG hms hlt hL1 HT J0 _ _ ?_ hK0
          intros
          refine hJ0 _ _ _ ?_
          (repeat apply Exists.intro)
          refine ⟨?_, rfl⟩
          assumption
        · obtain ⟨c0, c1, c2, c3, c4, c5⟩ := hms.cells
          have hfz := hms.warm
          clear hms ht h0 hpn
          have HZ : Hid (L ++ [(⟨x.s, x.n, x.e, x.v, p, p⟩ : At)] = total) := last_ HT.out (come5_past f n p x q (by omega))
          have MS2 : Hid (MSt w.heap.size w ((wr.setCell ⟨w.heap.size, 4, none⟩ (.int .i64 p)).setCell ⟨w.heap.size, 5, none⟩ (.int .i64 p)) (⟨x.s, x.n, x.e, x.v, p, p⟩ : At) u3 L) := (MS.out.s4 p).s5 p
          have HSZ : Hid (wr.heap.size = (((wr.setCell ⟨w.heap.size, 4, none⟩ (.int .i64 p)).setCell ⟨w.heap.size, 5, none⟩ (.int .i64 p)) : World).heap.size) := by show _ = _; simp
          have HLT : Hid (w.heap.size < wr.heap.size) := MS.out.lt
          clear HT
          go_wp2_with (first | (go_at_call 13; refine (zzSp_eq _ _).mono ?_; rintro _ _ ⟨rfl, rfl⟩) | (at_builtin; refine wpList_append_own _ rfl _ _ 34 rfl (w.heap.size + 1) 25 ti (.agg #[.int .i64 0, .int .i64 0, .int .i64 0, .int .i64 0, .int .i64 0, .int .i64 0]) 6 48 Try.underlying34 hi hz0 hz1 hz2 rfl (by decide) _ _ _ rfl (MS2.out.own.alloc _) ⟨wr.heap.size, 0, none⟩ 1 1 [.int .i64 x.s, .int .i64 x.n, .int .i64 x.e, .int .i64 x.v, .int .i64 p, .int .i64 p] rfl rfl (cell_six_at _ _ (by first | rfl | exact HSZ.out) _ _ _ _ _ _ _) (one_six _ _ _ _ _ _) (by unfold maxLen; omega) (by omega) (size_later (B := wr.heap.size) (by first | rfl | exact HSZ.out) HLT.out _) ?_; intro v' w3 hown' hgrow3 hnil3))
          go_ret
          have e := HZ.out
          subst e
          have MS3 := MS2.out.appended (⟨x.s, x.n, x.e, x.v, p, p⟩ : At) hown' hgrow3
          exact ⟨_, rfl, ownsRow_low MS3.own (Nat.le_succ _), MS3.nil, MS3.below⟩
      · have HG : Hid (gk = 3 * (n - p) + 1) := hg
        have hL1 : L.length + 1 ≤ p := by omega
        clear hg hL hs6
        by_cases hlt : p < n
        · refine round6 a n c f w wr HR.out hn total x q p L _ _ _ _ _ _ _ _ _ _ _ _ _ _ _ _ _ _ _ _ _ _ _ _ _ _ _ _ _ _ _ _ _ _ _ _ _ _ _ _ _ _ _ _ _ _ _ _ _ _ _ _ _ _ _ _ _ _ _ _ _ _ _ _ _ _ _ _ _ _ _ _ _ _ _ _ _ _ _ _ _ _ _ _ _ _ _ _ _ _ _ _ _ _ _ _ _ _ _ _ _ _ _ _ _ _ _ _ _ _ _ _ _ _ _ _ _ _ _ _ _ _ _ _ _ _ _ _ _ _ _ _ _ _ _ _ _ _ _ _ _ _ _ _ _ _ _ _ _ _ _ _ _ _ _ _ _ _ _ _ _ _ _ _ _ _ _ _ _ _ _ _ _ _ _ _ _ _ _ _ _ _ _ _ _ _ _ _ _ _ _ _ _ _ _ gk HG hms hlt hL1 HT J0 _ _ ?_ hK0
          intros
          refine hJ0 _ _ _ ?_
          (repeat apply Exists.intro)
          refine ⟨?_, rfl⟩
          assumption
        · obtain ⟨c0, c1, c2, c3, c4, c5⟩ := hms.cells
          have hfz := hms.warm
          clear hms ht h0 hpn
          have HZ : Hid (L ++ [(⟨x.s, x.n, x.e, x.v, p, p⟩ : At)] = total) := last_ HT.out (come6_past f n p x q (by omega))
          have MS2 : Hid (MSt w.heap.size w ((wr.setCell ⟨w.heap.size, 4, none⟩ (.int .i64 p)).setCell ⟨w.heap.size, 5, none⟩ (.int .i64 p)) (⟨x.s, x.n, x.e, x.v, p, p⟩ : At) u3 L) := (MS.out.s4 p).s5 p
          have HSZ : Hid (wr.heap.size = (((wr.setCell ⟨w.heap.size, 4, none⟩ (.int .i64 p)).setCell ⟨w.heap.size, 5, none⟩ (.int .i64 p)) : World).heap.size) := by show _ = _; simp
          have HLT : Hid (w.heap.size < wr.heap.size) := MS.out.lt
          clear HT
          go_wp2_with (first | (go_at_call 13; refine (zzSp_eq _ _).mono ?_; rintro _ _ ⟨rfl, rfl⟩) | (at_builtin; refine wpList_append_own _ rfl _ _ 34 rfl (w.heap.size + 1) 25 ti (.agg #[.int .i64 0, .int .i64 0, .int .i64 0, .int .i64 0, .int .i64 0, .int .i64 0]) 6 48 Try.underlying34 hi hz0 hz1 hz2 rfl (by decide) _ _ _ rfl (MS2.out.own.alloc _) ⟨wr.heap.size, 0, none⟩ 1 1 [.int .i64 x.s, .int .i64 x.n, .int .i64 x.e, .int .i64 x.v, .int .i64 p, .int .i64 p] rfl rfl (cell_six_at _ _ (by first | rfl | exact HSZ.out) _ _ _ _ _ _ _) (one_six _ _ _ _ _ _) (by unfold maxLen; omega) (by omega) (size_later (B := wr.heap.size) (by first | rfl | exact HSZ.out) HLT.out _) ?_; intro v' w3 hown' hgrow3 hnil3))
          go_ret
          have e := HZ.out
          subst e
          have MS3 := MS2.out.appended (⟨x.s, x.n, x.e, x.v, p, p⟩ : At) hown' hgrow3
          exact ⟨_, rfl, ownsRow_low MS3.own (Nat.le_succ _), MS3.nil, MS3.below⟩

end Go.Proofs.Qxb6603462a.TagModel
