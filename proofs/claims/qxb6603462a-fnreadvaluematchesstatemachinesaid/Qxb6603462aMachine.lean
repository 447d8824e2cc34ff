import Derived.Test.Qxb6603462aReadUse
import Derived.Test.Qxb6603462aPlainMachine
namespace Go.Proofs.Qxb6603462a.Machine
open Go.RowKit Go.Proofs.Qxb6603462a.Use

theorem results_tmp4 {fn : Func} {t u v x : Tmp} (h : fn.results = #[.tmp t, .tmp u, .tmp v, .tmp x]) (tmps : Array Value) (P : Program) (w : World) :
    (results fn tmps).run P w = .ok (.tuple #[tmps.getD t undef, tmps.getD u undef, tmps.getD v undef, tmps.getD x undef]) w := by
  simp [results, h]

/-- What is still to come from state s. -/
def ans (f : Nat → Int) (n : Nat) (v ve en : Int) (s x y : Int) (j : Nat) : Int × Int × Int × Int :=
  if s = 0 then rv f n j v ve en else if s = 1 then rvB f n j else if s = 2 then rvQ f n x y j else rvU f n x j
theorem ans0 (f : Nat → Int) (n : Nat) (v ve en x y : Int) (j : Nat) : ans f n v ve en 0 x y j = rv f n j v ve en := rfl
theorem ans1 (f : Nat → Int) (n : Nat) (v ve en x y : Int) (j : Nat) : ans f n v ve en 1 x y j = rvB f n j := rfl
theorem ans2 (f : Nat → Int) (n : Nat) (v ve en x y : Int) (j : Nat) : ans f n v ve en 2 x y j = rvQ f n x y j := rfl
theorem ans3 (f : Nat → Int) (n : Nat) (v ve en x y : Int) (j : Nat) : ans f n v ve en 3 x y j = rvU f n x j := rfl

theorem fin4 {X Y Z U : Value} {a b c d : Int} {N V VE EN : Int} {Q : Prop} (hX : X = .int .i64 a) (hY : Y = .int .i64 b) (hZ : Z = .int .i64 c) (hU : U = .int .i64 d) (h : (a, b, c, d) = (N, V, VE, EN)) (q : Q) :
    Ending.returned (.tuple #[X, Y, Z, U]) = .returned (.tuple #[.int .i64 N, .int .i64 V, .int .i64 VE, .int .i64 EN]) ∧ Q := by
  cases h
  rw [hX, hY, hZ, hU]
  exact ⟨rfl, q⟩

set_option maxRecDepth 8000 in
set_option maxHeartbeats 4000000 in
theorem model_is (a : Option Addr) (n c : Nat) (f : Nat → Int) (e : Nat) (v ve en N V VE EN : Int) (w : World) (hr : Row8 w a n f) (hn : n ≤ 1048576) (hrv : Hid (rv f n e v ve en = (N, V, VE, EN))) :
    Calls Try.prog 11 #[.slice a n c, .int .i64 e, .int .i64 v, .int .i64 ve, .int .i64 en] w fun r w' => r = .returned (.tuple #[.int .i64 N, .int .i64 V, .int .i64 VE, .int .i64 EN]) ∧ w = w' := by
  have HR : Hid (Row8 w a n f) := hr
  clear hr
  go_enter Try.func11, Try.ntmps11
  go_wp2
  go_loop [14, 15, 16, 17] (fun st vs q p => ∃ (s x y : Int) (j : Nat), st = .int .i64 s ∧ vs = .int .i64 x ∧ q = .int .u8 y ∧ p = .int .i64 j ∧ (s = 0 ∨ s = 1 ∨ s = 2 ∨ s = 3) ∧ (s = 2 → j ≤ n) ∧ Hid (ans f n v ve en s x y j = (N, V, VE, EN))) (fun _ _ _ p => n - (intOf p).toNat)
  case atStart => exact ⟨0, 0, 0, e, rfl, rfl, rfl, rfl, .inl rfl, fun h => by omega, hrv⟩
  case round =>
    obtain ⟨s, x, y, j, rfl, rfl, rfl, rfl, hs, hj, HK⟩ := hrel
    rcases hs with rfl | rfl | rfl | rfl
    · -- behind the name
      clear hj
      by_cases hlt : j < n
      · obtain ⟨b, off, rfl, hc⟩ := HR.out j hlt
        cases h1 : (f j == 47)
        · cases h2 : (f j == 61)
          · cases h3 : sp (f j)
            · have HZ : Hid (((j : Int), v, ve, en) = (N, V, VE, EN)) := (rv_stop f n j v ve en hlt h1 h2 h3).symm.trans HK.out
              clear HK
              go_wp2_with (go_at_call 13; refine (zzSp_any _ _).mono ?_; rintro e w' ⟨rfl, rfl⟩)
              (try simp only [Exit.inBlock, Exit.then]); refine bodyPost_ret (results_tmp4 rfl _ _ _) rfl ?_
              exact fin4 rfl rfl rfl rfl HZ.out rfl
            · have HZ : Hid (ans f n v ve en 0 x y (j + 1) = (N, V, VE, EN)) := (rv_space f n j v ve en hlt h3).symm.trans HK.out
              clear HK
              go_wp2_with (go_at_call 13; refine (zzSp_any _ _).mono ?_; rintro e w' ⟨rfl, rfl⟩)
              go_round
              case rel => exact ⟨0, x, y, j + 1, rfl, rfl, rfl, by go_num, .inl rfl, fun h => by omega, HZ⟩
              case measure => simp [intOf]; omega
          · have HZ : Hid (ans f n v ve en 1 x y (j + 1) = (N, V, VE, EN)) := (rv_equals f n j v ve en hlt h2).symm.trans HK.out
            clear HK
            go_wp2_with (go_at_call 13; refine (zzSp_any _ _).mono ?_; rintro e w' ⟨rfl, rfl⟩)
            go_round
            case rel => exact ⟨1, x, y, j + 1, rfl, rfl, rfl, by go_num, .inr (.inl rfl), fun h => by omega, HZ⟩
            case measure => simp [intOf]; omega
        · have HZ : Hid (((j : Int) + 1, v, ve, en) = (N, V, VE, EN)) := (rv_slash f n j v ve en hlt h1).symm.trans HK.out
          clear HK
          go_wp2_with (go_at_call 13; refine (zzSp_any _ _).mono ?_; rintro e w' ⟨rfl, rfl⟩)
          (try simp only [Exit.inBlock, Exit.then]); refine bodyPost_ret (results_tmp4 rfl _ _ _) rfl ?_
          exact fin4 rfl rfl rfl rfl HZ.out rfl
      · have HZ : Hid (((j : Int), v, ve, en) = (N, V, VE, EN)) := (rv_past f n j v ve en (by omega)).symm.trans HK.out
        clear HK
        go_wp2
        (try simp only [Exit.inBlock, Exit.then]); refine bodyPost_ret (results_tmp4 rfl _ _ _) rfl ?_
        exact fin4 rfl rfl rfl rfl HZ.out rfl
    · -- ahead of the value
      clear hj
      by_cases hlt : j < n
      · obtain ⟨b, off, rfl, hc⟩ := HR.out j hlt
        cases h1 : (f j == 62)
        · cases h2 : (f j == 34)
          · cases h3 : (f j == 39)
            · cases h4 : sp (f j)
              · have HZ : Hid (ans f n v ve en 3 (j : Int) y (j + 1) = (N, V, VE, EN)) := (rvB_begin f n j hlt h1 h2 h3 h4).symm.trans HK.out
                clear HK
                go_wp2_with (go_at_call 13; refine (zzSp_any _ _).mono ?_; rintro e w' ⟨rfl, rfl⟩)
                go_round
                case rel => exact ⟨3, (j : Int), y, j + 1, rfl, rfl, rfl, by go_num, .inr (.inr (.inr rfl)), fun h => by omega, HZ⟩
                case measure => simp [intOf]; omega
              · have HZ : Hid (ans f n v ve en 1 x y (j + 1) = (N, V, VE, EN)) := (rvB_space f n j hlt h4).symm.trans HK.out
                clear HK
                go_wp2_with (go_at_call 13; refine (zzSp_any _ _).mono ?_; rintro e w' ⟨rfl, rfl⟩)
                go_round
                case rel => exact ⟨1, x, y, j + 1, rfl, rfl, rfl, by go_num, .inr (.inl rfl), fun h => by omega, HZ⟩
                case measure => simp [intOf]; omega
            · have HZ : Hid (ans f n v ve en 2 ((j : Int) + 1) (f j) (j + 1) = (N, V, VE, EN)) := (rvB_quote f n j hlt (.inr ⟨h2, h3⟩)).symm.trans HK.out
              clear HK
              go_wp2_with (go_at_call 13; refine (zzSp_any _ _).mono ?_; rintro e w' ⟨rfl, rfl⟩)
              go_round
              case rel => exact ⟨2, ((j : Int) + 1), (f j), j + 1, rfl, rfl, rfl, by go_num, .inr (.inr (.inl rfl)), fun h => by omega, HZ⟩
              case measure => simp [intOf]; omega
          · have HZ : Hid (ans f n v ve en 2 ((j : Int) + 1) (f j) (j + 1) = (N, V, VE, EN)) := (rvB_quote f n j hlt (.inl h2)).symm.trans HK.out
            clear HK
            go_wp2_with (go_at_call 13; refine (zzSp_any _ _).mono ?_; rintro e w' ⟨rfl, rfl⟩)
            go_round
            case rel => exact ⟨2, ((j : Int) + 1), (f j), j + 1, rfl, rfl, rfl, by go_num, .inr (.inr (.inl rfl)), fun h => by omega, HZ⟩
            case measure => simp [intOf]; omega
        · have HZ : Hid (((j : Int), (j : Int), (j : Int), (j : Int)) = (N, V, VE, EN)) := (rvB_gt f n j hlt h1).symm.trans HK.out
          clear HK
          go_wp2_with (go_at_call 13; refine (zzSp_any _ _).mono ?_; rintro e w' ⟨rfl, rfl⟩)
          (try simp only [Exit.inBlock, Exit.then]); refine bodyPost_ret (results_tmp4 rfl _ _ _) rfl ?_
          exact fin4 rfl rfl rfl rfl HZ.out rfl
      · have HZ : Hid (((j : Int), (j : Int), (j : Int), (j : Int)) = (N, V, VE, EN)) := (rvB_past f n j (by omega)).symm.trans HK.out
        clear HK
        go_wp2
        (try simp only [Exit.inBlock, Exit.then]); refine bodyPost_ret (results_tmp4 rfl _ _ _) rfl ?_
        exact fin4 rfl rfl rfl rfl HZ.out rfl
    · -- in quotes
      by_cases hlt : j < n
      · clear hj
        obtain ⟨b, off, rfl, hc⟩ := HR.out j hlt
        cases h1 : (f j == y)
        · have HZ : Hid (ans f n v ve en 2 x y (j + 1) = (N, V, VE, EN)) := (rvQ_on f n j x y hlt h1).symm.trans HK.out
          clear HK
          go_wp2_with (go_at_call 13; refine (zzSp_any _ _).mono ?_; rintro e w' ⟨rfl, rfl⟩)
          go_round
          case rel => exact ⟨2, x, y, j + 1, rfl, rfl, rfl, by go_num, .inr (.inr (.inl rfl)), fun h => by omega, HZ⟩
          case measure => simp [intOf]; omega
        · have HZ : Hid (((j : Int) + 1, x, (j : Int), (j : Int) + 1) = (N, V, VE, EN)) := (rvQ_end f n j x y hlt h1).symm.trans HK.out
          clear HK
          go_wp2_with (go_at_call 13; refine (zzSp_any _ _).mono ?_; rintro e w' ⟨rfl, rfl⟩)
          (try simp only [Exit.inBlock, Exit.then]); refine bodyPost_ret (results_tmp4 rfl _ _ _) rfl ?_
          exact fin4 rfl rfl rfl rfl HZ.out rfl
      · have hjn : Hid (j = n) := by have := hj rfl; show j = n; omega
        clear hj
        have HZ : Hid (((j : Int), x, (j : Int), (j : Int)) = (N, V, VE, EN)) := (rvQ_past f n j x y hjn.out).symm.trans HK.out
        clear HK
        go_wp2
        (try simp only [Exit.inBlock, Exit.then]); refine bodyPost_ret (results_tmp4 rfl _ _ _) rfl ?_
        exact fin4 rfl rfl rfl rfl HZ.out rfl
    · -- not in quotes
      clear hj
      by_cases hlt : j < n
      · obtain ⟨b, off, rfl, hc⟩ := HR.out j hlt
        cases h1 : sp (f j)
        · cases h2 : (f j == 62)
          · have HZ : Hid (ans f n v ve en 3 x y (j + 1) = (N, V, VE, EN)) := (rvU_on f n j x hlt h1 h2).symm.trans HK.out
            clear HK
            go_wp2_with (go_at_call 13; refine (zzSp_any _ _).mono ?_; rintro e w' ⟨rfl, rfl⟩)
            go_round
            case rel => exact ⟨3, x, y, j + 1, rfl, rfl, rfl, by go_num, .inr (.inr (.inr rfl)), fun h => by omega, HZ⟩
            case measure => simp [intOf]; omega
          · have HZ : Hid (((j : Int), x, (j : Int), (j : Int)) = (N, V, VE, EN)) := (rvU_end f n j x hlt (.inr ⟨h1, h2⟩)).symm.trans HK.out
            clear HK
            go_wp2_with (go_at_call 13; refine (zzSp_any _ _).mono ?_; rintro e w' ⟨rfl, rfl⟩)
            (try simp only [Exit.inBlock, Exit.then]); refine bodyPost_ret (results_tmp4 rfl _ _ _) rfl ?_
            exact fin4 rfl rfl rfl rfl HZ.out rfl
        · have HZ : Hid (((j : Int), x, (j : Int), (j : Int)) = (N, V, VE, EN)) := (rvU_end f n j x hlt (.inl h1)).symm.trans HK.out
          clear HK
          go_wp2_with (go_at_call 13; refine (zzSp_any _ _).mono ?_; rintro e w' ⟨rfl, rfl⟩)
          (try simp only [Exit.inBlock, Exit.then]); refine bodyPost_ret (results_tmp4 rfl _ _ _) rfl ?_
          exact fin4 rfl rfl rfl rfl HZ.out rfl
      · have HZ : Hid (((j : Int), x, (j : Int), (j : Int)) = (N, V, VE, EN)) := (rvU_past f n j x (by omega)).symm.trans HK.out
        clear HK
        go_wp2
        (try simp only [Exit.inBlock, Exit.then]); refine bodyPost_ret (results_tmp4 rfl _ _ _) rfl ?_
        exact fin4 rfl rfl rfl rfl HZ.out rfl

end Go.Proofs.Qxb6603462a.Machine
