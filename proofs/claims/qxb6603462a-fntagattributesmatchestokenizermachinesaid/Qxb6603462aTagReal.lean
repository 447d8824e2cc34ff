import Derived.Test.Qxb6603462aTagMem
import Derived.Deep.CutBlock
import Derived.Deep.DeepCutAuto
namespace Go.Proofs.Qxb6603462a.TagReal
open Go.RowKit Go.Proofs.Qxb6603462a.Use

set_option maxRecDepth 8000 in
set_option maxHeartbeats 4000000 in
theorem tag_is (a : Option Addr) (n c : Nat) (f : Nat → Int) (w : World) (hr : Row8 w a n f) (hn : n ≤ 1048576) (i0 : Nat) (h0 : Hid (skipTo tn f n 2 = i0)) (total : List At) (ht : Hid (tagT f n i0 = total)) :
    Calls Try.prog 17 #[.slice a n c] w fun r w' => ∃ v, r = .returned v ∧ w'.ownsRow w.heap.size 25 6 v total.length (flatA total) ∧ (total = [] → v = .slice none 0 0) ∧ Below w.heap.size w w' := by
  obtain ⟨ti, hi, hz0, hz1, hz2⟩ := info_parts info25
  have HR : Hid (Row8 w a n f) := hr
  clear hr
  go_enter Try.func17, Try.ntmps17
  go_upto_block 0 with fail
  go_cut [3] (fun t wx => t = .int .i64 i0 ∧ w = wx ∧ i0 ≤ n + 2)
  case first =>
    go_wp2
    go_loop [3] (fun t => ∃ j : Nat, t = .int .i64 j ∧ j ≤ n + 2 ∧ Hid (skipTo tn f n j = i0)) (fun t => n - (intOf t).toNat)
    case atStart => exact ⟨2, rfl, by omega, h0⟩
    case round =>
      obtain ⟨j, rfl, hj, HJ⟩ := hrel
      by_cases hlt : j < n
      · obtain ⟨b, off, rfl, hc⟩ := HR.out j hlt
        cases hs : sp (f j)
        · cases h1 : (f j != 47)
          · have HZ : Hid (j = i0) := (skipTo_no tn f n j hlt (by simp only [tn, hs, h1]; rfl)).symm.trans HJ.out
            clear HJ h0
            go_wp2_with (go_at_call 22; refine (isSpace_any _ _).mono ?_; rintro e w' ⟨rfl, rfl⟩)
            go_meet
            case rel => exact ⟨by rw [HZ.out], rfl, by have := HZ.out; omega⟩
          · cases h2 : (f j != 62)
            · have HZ : Hid (j = i0) := (skipTo_no tn f n j hlt (by simp only [tn, hs, h1, h2]; rfl)).symm.trans HJ.out
              clear HJ h0
              go_wp2_with (go_at_call 22; refine (isSpace_any _ _).mono ?_; rintro e w' ⟨rfl, rfl⟩)
              go_meet
              case rel => exact ⟨by rw [HZ.out], rfl, by have := HZ.out; omega⟩
            · have HZ : Hid (skipTo tn f n (j + 1) = i0) := (skipTo_yes tn f n j hlt (by simp only [tn, hs, h1, h2]; rfl)).symm.trans HJ.out
              clear HJ h0
              go_wp2_with (go_at_call 22; refine (isSpace_any _ _).mono ?_; rintro e w' ⟨rfl, rfl⟩)
              go_round
              case rel => exact ⟨j + 1, by go_num, by omega, HZ⟩
              case measure => simp [intOf]; omega
        · have HZ : Hid (j = i0) := (skipTo_no tn f n j hlt (by simp only [tn, hs]; rfl)).symm.trans HJ.out
          clear HJ h0
          go_wp2_with (go_at_call 22; refine (isSpace_any _ _).mono ?_; rintro e w' ⟨rfl, rfl⟩)
          go_meet
          case rel => exact ⟨by rw [HZ.out], rfl, by have := HZ.out; omega⟩
      · have HZ : Hid (j = i0) := (skipTo_ge tn f n j (by omega)).symm.trans HJ.out
        clear HJ h0
        go_wp2
        go_meet
        case rel => exact ⟨by rw [HZ.out], rfl, by have := HZ.out; omega⟩
  case rest =>
    obtain ⟨rfl, rfl, hi0⟩ := hcut
    go_wp2
    go_loopg [3, 4] (n + 3 - i0) (fun g t v wr => ∃ (i : Nat) (L : List At), t = .int .i64 i ∧ g = n + 3 - i ∧ i ≤ n + 2 ∧ Below w.heap.size w wr ∧ wr.ownsRow w.heap.size 25 6 v L.length (flatA L) ∧ Hid (L = [] → v = .slice none 0 0) ∧ L.length ≤ i ∧ Hid (L ++ tagT f n i = total))
    case atStart => exact ⟨i0, [], rfl, rfl, hi0, Below.refl _ _, World.ownsRow_nil _ _ _ _, fun _ => rfl, Nat.zero_le _, ht⟩
    case round =>
      obtain ⟨i, L, rfl, hg, hin, hbw, hown, hnil, hLi, HT⟩ := hrel
      have HG : Hid (gk = n + 3 - i) := hg
      have HO : Hid (wr.ownsRow w.heap.size 25 6 u4 L.length (flatA L)) := hown
      have HB : Hid (Below w.heap.size w wr) := hbw
      have HW : Hid (Row8 wr a n f) := HR.out.later hbw
      clear hg hown hbw ht h0
      obtain ⟨k, hk⟩ : ∃ k, Hid (skipTo sp f n i = k) := ⟨_, rfl⟩
      have hki : i ≤ k := by rw [← hk.out]; exact skipTo_lo sp f n i
      have hTe : Hid (tagT f n i = if n ≤ k then [] else if f k = 62 then [] else if f k = 47 then tagT f n (k + 1) else tagN f n (back f k) k (k + 1)) := by
        have := tagT_eq f n i
        rw [hk.out] at this
        exact this
      by_cases hlt : k < n
      · obtain ⟨b, off, ha, hc⟩ := HW.out k hlt
        subst ha
        have hcb := cell_lt hc
        cases h1 : (f k == 62)
        · cases h2 : (f k == 47)
          · -- a name
            obtain ⟨J, hJ⟩ : ∃ J, Hid (skipTo nmc f n (k + 1) = J) := ⟨_, rfl⟩
            have j1 : k + 1 ≤ J := by rw [← hJ.out]; exact skipTo_lo nmc f n (k + 1)
            have j2 : J ≤ n := by rw [← hJ.out]; exact skipTo_hi nmc f n (k + 1) (by omega)
            have hsp : sp (f k) = false := skipTo_stop sp f n i k hk.out hlt hki
            obtain ⟨N, V, VE, EN, r1, n1, n2, _⟩ := rv_between f n J j2 J J J
            have R1 : Hid (rv f n J J J J = ((N : Int), V, VE, EN)) := r1
            have HT2 : Hid (L ++ [⟨back f k, k, J, V, VE, EN⟩] ++ tagT f n N = total) := by
              have := hTe.out
              rw [if_neg (by omega), if_neg (by simpa using h1), if_neg (by simpa using h2)] at this
              unfold tagN at this
              rw [hJ.out, r1, emit_at] at this
              have h := HT.out
              rw [this] at h
              rw [← h, List.append_assoc]
              rfl
            have hbk := back_le f k
            obtain ⟨S, hS⟩ : ∃ S, Hid (back f k = S) := ⟨_, rfl⟩
            rw [hS.out] at HT2 hbk
            clear hTe HT r1
            have hnk : ¬ n ≤ k := by omega
            have hf1 : (f k != 62) = true := by simpa using h1
            have hf2 : (f k != 47) = true := by simpa using h2
            go_upto_block 4 with (go_at_call 23; refine (skipSpace_eq _ _ _ f _ _ _ HW.out hn hk).mono ?_; rintro _ _ ⟨rfl, rfl⟩)
            go_cut [6] (fun t wx => t = .int .i64 J ∧ wr.alloc (.cells #[.int .i64 0, .int .i64 k, .int .i64 0, .int .i64 0, .int .i64 0, .int .i64 0] 25) = wx)
            case first =>
              go_wp2
              go_loopg [6] (n - k) (fun g t wx => ∃ j : Nat, t = .int .i64 j ∧ g = n - j ∧ wr.alloc (.cells #[.int .i64 0, .int .i64 k, .int .i64 0, .int .i64 0, .int .i64 0, .int .i64 0] 25) = wx ∧ k ≤ j ∧ j ≤ n ∧ Hid (j = k ∨ k < j ∧ skipTo nmc f n j = J))
              case atStart => exact ⟨k, rfl, rfl, rfl, Nat.le_refl _, by omega, .inl rfl⟩
              case round =>
                obtain ⟨j, rfl, hg2, rfl, hkj, hjn, HJ⟩ := hrel
                have HG2 : Hid (gk = n - j) := hg2
                clear hg2
                by_cases hjk : j = k
                · subst hjk
                  clear HJ
                  cases h3 : (f j == 61)
                  · have h4 : (f j != 61) = true := by simpa using h3
                    go_wp2_with (go_at_call 22; refine (isSpace_any _ _).mono ?_; rintro e w' ⟨rfl, rfl⟩)
                    go_roundg (n - (j + 1))
                    case rel => exact ⟨j + 1, by go_num, rfl, rfl, by omega, by omega, .inr ⟨by omega, hJ⟩⟩
                    case measure => rw [HG2.out]; omega
                  · go_wp2
                    go_roundg (n - (j + 1))
                    case rel => exact ⟨j + 1, by go_num, rfl, rfl, by omega, by omega, .inr ⟨by omega, hJ⟩⟩
                    case measure => rw [HG2.out]; omega
                · have HJ := HJ.out.resolve_left hjk
                  have hjk2 : ((j : Int) == (k : Int)) = false := by rw [beq_eq_false_iff_ne]; omega
                  clear hc h1 h2 hf1 hf2 hsp
                  by_cases hjlt : j < n
                  · have hcj : wr.cell? ⟨b, off + j, none⟩ = some (.int .u8 (f j)) := by
                      obtain ⟨b', off', e', hc'⟩ := HW.out j hjlt
                      cases e'
                      exact hc'
                    have HJ : Hid (k < j ∧ skipTo nmc f n j = J) := HJ
                    cases h3 : sp (f j)
                    · cases h4 : (f j != 47)
                      · have HZ : Hid (j = J) := (skipTo_no nmc f n j hjlt (by simp only [nmc, h3, h4]; rfl)).symm.trans HJ.out.2
                        go_wp2_with (go_at_call 22; refine (isSpace_any _ _).mono ?_; rintro e w' ⟨rfl, rfl⟩)
                        go_meet
                        case rel => exact ⟨by rw [HZ.out], rfl⟩
                      · cases h5 : (f j != 62)
                        · have HZ : Hid (j = J) := (skipTo_no nmc f n j hjlt (by simp only [nmc, h3, h4, h5]; rfl)).symm.trans HJ.out.2
                          go_wp2_with (go_at_call 22; refine (isSpace_any _ _).mono ?_; rintro e w' ⟨rfl, rfl⟩)
                          go_meet
                          case rel => exact ⟨by rw [HZ.out], rfl⟩
                        · cases h6 : (f j != 61)
                          · have HZ : Hid (j = J) := (skipTo_no nmc f n j hjlt (by simp only [nmc, h3, h4, h5, h6]; rfl)).symm.trans HJ.out.2
                            go_wp2_with (go_at_call 22; refine (isSpace_any _ _).mono ?_; rintro e w' ⟨rfl, rfl⟩)
                            go_meet
                            case rel => exact ⟨by rw [HZ.out], rfl⟩
                          · have HZ : Hid (skipTo nmc f n (j + 1) = J) := (skipTo_yes nmc f n j hjlt (by simp only [nmc, h3, h4, h5, h6]; rfl)).symm.trans HJ.out.2
                            go_wp2_with (go_at_call 22; refine (isSpace_any _ _).mono ?_; rintro e w' ⟨rfl, rfl⟩)
                            go_roundg (n - (j + 1))
                            case rel => exact ⟨j + 1, by go_num, rfl, rfl, by omega, by omega, .inr ⟨by omega, HZ⟩⟩
                            case measure => rw [HG2.out]; omega
                    · have HZ : Hid (j = J) := (skipTo_no nmc f n j hjlt (by simp only [nmc, h3]; rfl)).symm.trans HJ.out.2
                      go_wp2_with (go_at_call 22; refine (isSpace_any _ _).mono ?_; rintro e w' ⟨rfl, rfl⟩)
                      go_meet
                      case rel => exact ⟨by rw [HZ.out], rfl⟩
                  · have HZ : Hid (j = J) := (skipTo_ge nmc f n j (by omega)).symm.trans HJ.2
                    clear HJ
                    go_wp2
                    go_meet
                    case rel => exact ⟨by rw [HZ.out], rfl⟩
            case rest =>
              obtain ⟨rfl, rfl⟩ := hcut
              clear h1 h2 hf1 hf2 hsp hc
              have hkJ : k < J := by omega
              go_upto_block 6 with (go_at_call 21; refine (readValue_is _ _ _ f _ _ _ _ _ _ _ _ _ _ wr HW.out hn R1).mono ?_; rintro _ _ ⟨rfl, rfl⟩)
              go_cut [] (fun wx => wr.alloc (.cells #[.int .i64 S, .int .i64 k, .int .i64 J, .int .i64 V, .int .i64 VE, .int .i64 EN] 25) = wx)
              case first =>
                go_wp2
                go_loopg [] k (fun g wx => ∃ s : Nat, g = s ∧ s ≤ k ∧ wr.alloc (.cells #[.int .i64 s, .int .i64 k, .int .i64 J, .int .i64 V, .int .i64 VE, .int .i64 EN] 25) = wx ∧ Hid (back f s = S))
                case atStart => exact ⟨k, rfl, Nat.le_refl _, rfl, hS⟩
                case round =>
                  obtain ⟨s, hg3, hs1, rfl, HS⟩ := hrel
                  have HG3 : Hid (gk = s) := hg3
                  clear hg3
                  cases s with
                  | zero =>
                    have HZ : Hid (0 = S) := HS.out
                    go_wp2
                    go_meet
                    case rel => rw [← HZ.out]; rfl
                  | succ s =>
                    have hcs : wr.cell? ⟨b, off + s, none⟩ = some (.int .u8 (f s)) := by
                      obtain ⟨b', off', e', hc'⟩ := HW.out s (by omega)
                      cases e'
                      exact hc'
                    cases hq : sp (f s)
                    · have HZ : Hid (s + 1 = S) := (back_other f s hq).symm.trans HS.out
                      clear HS
                      go_wp2_with (go_at_call 22; refine (isSpace_any _ _).mono ?_; rintro e w' ⟨rfl, rfl⟩)
                      go_meet
                      case rel => rw [← HZ.out]; rfl
                    · have HZ : Hid (back f s = S) := (back_space f s hq).symm.trans HS.out
                      clear HS
                      go_wp2_with (go_at_call 22; refine (isSpace_any _ _).mono ?_; rintro e w' ⟨rfl, rfl⟩)
                      go_roundg s
                      case rel => exact ⟨s, rfl, by omega, by go_num, HZ⟩
                      case measure => rw [HG3.out]; omega
              case rest =>
                obtain rfl := hcut
                go_wp2_with (at_builtin; refine wpList_append_own _ rfl _ _ 34 rfl w.heap.size 25 ti (.agg #[.int .i64 0, .int .i64 0, .int .i64 0, .int .i64 0, .int .i64 0, .int .i64 0]) 6 48 Try.underlying34 hi hz0 hz1 hz2 rfl (by decide) _ _ _ rfl ((HO.out.alloc _).alloc _) ⟨wr.heap.size + 1, 0, none⟩ 1 1 [.int .i64 S, .int .i64 k, .int .i64 J, .int .i64 V, .int .i64 VE, .int .i64 EN] rfl rfl (by simpa using cell_six_new (wr.alloc _) _ _ _ _ _ _ _) (one_six _ _ _ _ _ _) (by unfold maxLen; omega) (by omega) (by have := HB.out.size; simp; omega) ?_; intro v' w3 hown' hgrow3 hnil3)
                go_roundg (n + 3 - N)
                case rel =>
                  refine ⟨N, L ++ [⟨S, k, J, V, VE, EN⟩], rfl, rfl, by omega, ?_, ?_, ?_, ?_, HT2⟩
                  · exact ((HB.out.alloc HB.out.size _).alloc (by have := HB.out.size; simp; omega) _).grown hgrow3 (by have := HB.out.size; simp; omega) (fun q hq => (HO.out.lt q hq).1)
                  · rw [flatA_snoc, List.length_append]
                    exact hown'
                  · intro h
                    exact absurd h (by simp)
                  · rw [List.length_append]
                    show L.length + 1 ≤ N
                    omega
                case measure => rw [HG.out]; omega
          · -- '/'
            have HT2 : Hid (L ++ tagT f n (k + 1) = total) := by
              have h2' : f k = 47 := by simpa using h2
              have := hTe.out
              rw [if_neg (by omega), if_neg (by rw [h2']; decide), if_pos h2'] at this
              rw [← this]; exact HT.out
            have R1 : Hid (rv f n k k k k = ((k : Int) + 1, (k : Int), (k : Int), (k : Int))) := rv_slash f n k k k k hlt h2
            have hsp : sp (f k) = false := sp_of h2 rfl
            have h3 : (f k == 61) = false := by
              have h2' : f k = 47 := by simpa using h2
              rw [h2']; rfl
            have h4 : (f k != 47) = false := by simpa using h2
            clear hTe HT
            go_wp2_with (first | (go_at_call 23; refine (skipSpace_eq _ _ _ f _ _ _ HW.out hn hk).mono ?_; rintro _ _ ⟨rfl, rfl⟩))
            go_loop [6] (fun t => t = .int .i64 k) (fun _ => 0)
            case atStart => exact rfl
            case round =>
              subst hrel
              go_wp2_with (first | (go_at_call 22; refine (isSpace_eq _ _).mono ?_; rintro _ _ ⟨rfl, rfl⟩) | (go_at_call 21; refine (readValue_is _ _ _ f _ _ _ _ _ _ _ _ _ _ wr HW.out hn R1).mono ?_; rintro _ _ ⟨rfl, rfl⟩))
              go_roundg (n + 3 - (k + 1))
              case rel => exact ⟨k + 1, L, by go_num, rfl, by omega, HB.out.alloc HB.out.size _, HO.out.alloc _, hnil, by omega, HT2⟩
              case measure => rw [HG.out]; omega
        · have HT2 : Hid (L = total) := by
            have := hTe.out
            rw [if_neg (by omega), if_pos (by simpa using h1)] at this
            have h := HT.out
            rw [this, List.append_nil] at h
            exact h
          go_wp2_with (go_at_call 23; refine (skipSpace_eq _ _ _ f _ _ _ HW.out hn hk).mono ?_; rintro _ _ ⟨rfl, rfl⟩)
          go_ret
          subst HT2
          exact ⟨_, rfl, HO.out, hnil.out, HB.out⟩
      · have HT2 : Hid (L = total) := by
          have := hTe.out
          rw [if_pos (by omega)] at this
          have h := HT.out
          rw [this, List.append_nil] at h
          exact h
        go_wp2_with (go_at_call 23; refine (skipSpace_eq _ _ _ f _ _ _ HW.out hn hk).mono ?_; rintro _ _ ⟨rfl, rfl⟩)
        go_ret
        have e := HT2.out
        subst e
        exact ⟨_, rfl, HO.out, hnil.out, HB.out⟩

end Go.Proofs.Qxb6603462a.TagReal
