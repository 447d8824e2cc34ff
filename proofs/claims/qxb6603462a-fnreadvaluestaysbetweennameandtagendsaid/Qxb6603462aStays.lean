import Derived.Test.Qxb6603462aReadUse
import Derived.Test.Qxb6603462aPlainStays
namespace Go.Proofs.Qxb6603462a.Stays
open Go.RowKit Go.Proofs.Qxb6603462a.Use

set_option maxHeartbeats 400000 in
theorem bytes_no (a : Option Addr) (len cap : Nat) (a1 a2 a3 a4 a5 a6 : Int) (w : World) (h : 1048576 < len) (h2 : len ≤ 9223372036854775807) :
    Calls Try.prog 12 #[.slice a len cap, .int .i64 a1, .int .i64 a2, .int .i64 a3, .int .i64 a4, .int .i64 a5, .int .i64 a6] w fun e w' => e = .returned (.bool false) ∧ w = w' := by
  go_enter Try.func12, Try.ntmps12
  go_wp2
  go_ret
  exact ⟨rfl, rfl⟩

set_option maxHeartbeats 400000 in
theorem bytes_yes (a : Option Addr) (len cap : Nat) (a1 a2 a3 a4 a5 a6 : Int) (w : World) (h : len ≤ 1048576) :
    Calls Try.prog 12 #[.slice a len cap, .int .i64 a1, .int .i64 a2, .int .i64 a3, .int .i64 a4, .int .i64 a5, .int .i64 a6] w fun e w' => e = .returned (.bool true) ∧ w = w' := by
  go_enter Try.func12, Try.ntmps12
  go_wp2
  go_ret
  exact ⟨rfl, rfl⟩

set_option maxRecDepth 8000 in
set_option maxHeartbeats 400000 in
theorem long (a : Option Addr) (len cap : Nat) (a1 a2 a3 a4 a5 a6 : Int) (w : World) (h : 1048576 < len) (h2 : len ≤ 9223372036854775807) :
    Calls Try.prog 4 #[.slice a len cap, .int .i64 a1, .int .i64 a2, .int .i64 a3, .int .i64 a4, .int .i64 a5, .int .i64 a6] w fun r w' => r = .returned (.bool true) ∧ Below w.heap.size w w' := by
  go_enter Try.func4, Try.ntmps4
  go_wp2_with fail
  refine (bytes_no _ _ _ _ _ _ _ _ _ _ h h2).mono ?_
  rintro _ _ ⟨rfl, rfl⟩
  go_wp2
  go_ret
  exact ⟨rfl, Below.refl _ _⟩

set_option maxRecDepth 8000 in
set_option maxHeartbeats 400000 in
theorem out (a : Option Addr) (len cap : Nat) (a1 a2 a3 a4 a5 a6 : Int) (w : World) (h : len ≤ 1048576) (h2 : a3 < 0 ∨ ¬ a3 < 0 ∧ (len : Int) < a3) :
    Calls Try.prog 4 #[.slice a len cap, .int .i64 a1, .int .i64 a2, .int .i64 a3, .int .i64 a4, .int .i64 a5, .int .i64 a6] w fun r w' => r = .returned (.bool true) ∧ Below w.heap.size w w' := by
  rcases h2 with h2 | ⟨h2, h3⟩
  all_goals
    go_enter Try.func4, Try.ntmps4
    go_wp2_with fail
    refine (bytes_yes _ _ _ _ _ _ _ _ _ _ h).mono ?_
    rintro _ _ ⟨rfl, rfl⟩
    go_wp2
    go_ret
    exact ⟨rfl, Below.refl _ _⟩

set_option maxRecDepth 8000 in
set_option maxHeartbeats 1000000 in
theorem nil (a1 a2 a4 a5 a6 : Int) (w : World) :
    Calls Try.prog 4 #[.slice none 0 0, .int .i64 a1, .int .i64 a2, .int .i64 0, .int .i64 a4, .int .i64 a5, .int .i64 a6] w fun r w' => r = .returned (.bool true) ∧ Below w.heap.size w w' := by
  have hnn := run_neq_slice_nil_any (P := Try.prog) w 22 5 none 0 0 0 0 Try.underlying22
  have R1 : Hid (rv (fun _ => 0) 0 0 a4 a5 a6 = (0, a4, a5, a6)) := rfl
  go_enter Try.func4, Try.ntmps4
  go_wp2_with fail
  refine (bytes_yes _ _ _ _ _ _ _ _ _ _ (by omega)).mono ?_
  rintro _ _ ⟨rfl, rfl⟩
  go_wp2_with fail
  refine (zzReadValue_at _ _ _ _ (fun _ => 0) _ _ _ _ _ 0 _ _ _ _ w (row8_zero _ _ _) (by omega) rfl R1).mono ?_
  rintro _ _ ⟨rfl, rfl⟩
  go_wp2
  go_ret
  exact ⟨rfl, below1 _ _⟩

set_option maxRecDepth 8000 in
set_option maxHeartbeats 1000000 in
theorem kept (x : Addr) (len cap : Nat) (cs : List Value) (f : Nat → Int) (a1 a2 : Int) (e : Nat) (a4 a5 a6 : Int) (N : Nat) (w : World) (hle : len ≤ 1048576) (he : e ≤ len) (hl : Hid (cs.length = len))
    (hsrc : Hid (∀ j v, cs[j]? = some v → w.cell? (x.add j) = some v)) (h1 : Hid (∀ v ∈ cs, v.oneCell' = true)) (hcs : Hid (∀ i, i < len → cs[i]? = some (.int .u8 (f i))))
    (R1 : Hid (rv f len e a4 a5 a6 = ((N : Int), a4, a5, a6))) (n1 : e ≤ N) (n2 : N ≤ len) :
    Calls Try.prog 4 #[.slice (some x) len cap, .int .i64 a1, .int .i64 a2, .int .i64 e, .int .i64 a4, .int .i64 a5, .int .i64 a6] w fun r w' => r = .returned (.bool true) ∧ Below w.heap.size w w' := by
  have hmk := make_run len hle
  have hcp : ∀ ty, (Builtin.copy_ #[22, 22] ty #[.slice (some ⟨w.heap.size, 0, none⟩) len len, .slice (some x) len cap]).run Try.prog (w.alloc (.cells (madeCells #[.int .u8 0] len) 5)) = .ok (goInt len) (w.alloc (.cells cs.toArray 5)) := fun ty => copy_run w x len cap ty cs hl.out hsrc.out h1.out
  have hnn := run_neq_slice_nil_any (P := Try.prog) w 22 5 (some x) len cap 0 0 Try.underlying22
  have h2 : ¬ (e : Int) < 0 := by omega
  have h3 : ¬ len < e := by omega
  have h4 : ¬ N < e := by omega
  have h5 : ¬ len < N := by omega
  go_enter Try.func4, Try.ntmps4
  go_wp2_with fail
  refine (bytes_yes _ _ _ _ _ _ _ _ _ _ hle).mono ?_
  rintro _ _ ⟨rfl, rfl⟩
  go_wp2_with fail
  refine (zzReadValue_at _ _ _ _ f _ _ _ _ _ _ _ _ _ _ (w.alloc (.cells cs.toArray 5)) (row8_new w cs len f hcs.out) hle (by simp) R1).mono ?_
  rintro _ _ ⟨rfl, rfl⟩
  clear hmk hcp hnn
  go_wp2
  go_ret
  exact ⟨rfl, below2 _ _ _⟩

/-- How many '=' lie before place j, where the one lies at ke. -/
def cnt (ke j : Nat) : Int := if j ≤ ke then 0 else 1
theorem cnt_lo {ke j : Nat} (h : j ≤ ke) : cnt ke j = 0 := if_pos h
theorem cnt_hi {ke j : Nat} (h : ke < j) : cnt ke j = 1 := if_neg (by omega)
theorem cnt_step {ke j : Nat} (h : ¬ j = ke) : cnt ke (j + 1) = cnt ke j := by
  unfold cnt
  by_cases h2 : j ≤ ke
  · rw [if_pos h2, if_pos (by omega)]
  · rw [if_neg h2, if_neg (by omega)]
theorem cnt_bd (ke j : Nat) : 0 ≤ cnt ke j ∧ cnt ke j ≤ 1 := by unfold cnt; split <;> omega

set_option maxRecDepth 8000 in
set_option maxHeartbeats 4000000 in
theorem read (x : Addr) (len cap : Nat) (cs : List Value) (f : Nat → Int) (a1 a2 : Int) (e : Nat) (a4 a5 a6 : Int) (N ke p b : Nat) (w : World) (hle : len ≤ 1048576) (he : e ≤ len) (hl : Hid (cs.length = len))
    (hsrc : Hid (∀ j v, cs[j]? = some v → w.cell? (x.add j) = some v)) (h1 : Hid (∀ v ∈ cs, v.oneCell' = true)) (hcs : Hid (∀ i, i < len → cs[i]? = some (.int .u8 (f i))))
    (R1 : Hid (rv f len e a4 a5 a6 = ((N : Int), (p : Int), (b : Int), (N : Int)))) (n1 : e ≤ N) (n2 : N ≤ len) (k1 : e ≤ ke) (k2 : ke < p) (k3 : p ≤ b) (k4 : b ≤ N) (hke : Hid (f ke = 61))
    (hall : Hid (∀ j, e ≤ j → j < p → j ≠ ke → sp (f j) = true ∨ (sp (f j) = false ∧ j + 1 = p ∧ (f j = 34 ∨ f j = 39))))
    (hd : ((p : Int) == a4) = false ∨ ((p : Int) == a4) = true ∧ ((b : Int) == a5) = false ∨ ((p : Int) == a4) = true ∧ ((b : Int) == a5) = true ∧ ((N : Int) == a6) = false) :
    Calls Try.prog 4 #[.slice (some x) len cap, .int .i64 a1, .int .i64 a2, .int .i64 e, .int .i64 a4, .int .i64 a5, .int .i64 a6] w fun r w' => r = .returned (.bool true) ∧ Below w.heap.size w w' := by
  have hmk := make_run len hle
  have hcp : ∀ ty, (Builtin.copy_ #[22, 22] ty #[.slice (some ⟨w.heap.size, 0, none⟩) len len, .slice (some x) len cap]).run Try.prog (w.alloc (.cells (madeCells #[.int .u8 0] len) 5)) = .ok (goInt len) (w.alloc (.cells cs.toArray 5)) := fun ty => copy_run w x len cap ty cs hl.out hsrc.out h1.out
  have hnn := run_neq_slice_nil_any (P := Try.prog) w 22 5 (some x) len cap 0 0 Try.underlying22
  have h2 : ¬ (e : Int) < 0 := by omega
  have h3 : ¬ len < e := by omega
  have h4 : ¬ N < e := by omega
  have h5 : ¬ len < N := by omega
  have h6 : e < p := by omega
  have h7 : decide ((e : Int) < 0) = false := by simp
  have h8 : decide ((1048576 : Int) < (len : Int)) = false := by simp; omega
  rcases hd with d1 | ⟨d1, d2⟩ | ⟨d1, d2, d3⟩
  all_goals
    go_enter Try.func4, Try.ntmps4
    go_wp2_with fail
    refine (bytes_yes _ _ _ _ _ _ _ _ _ _ hle).mono ?_
    rintro _ _ ⟨rfl, rfl⟩
    go_wp2_with fail
    refine (zzReadValue_at _ _ _ _ f _ _ _ _ _ _ _ _ _ _ (w.alloc (.cells cs.toArray 5)) (row8_new w cs len f hcs.out) hle (by simp) R1).mono ?_
    rintro _ _ ⟨rfl, rfl⟩
    clear hmk hcp hnn
    go_wp2
    go_loop [18, 19] (fun q t => ∃ j : Nat, e ≤ j ∧ j ≤ p ∧ t = .int .i64 j ∧ q = .int .i64 (cnt ke j)) (fun _ t => p - (intOf t).toNat)
    case atStart => exact ⟨e, Nat.le_refl _, by omega, rfl, by rw [cnt_lo k1]⟩
    case round =>
      obtain ⟨j, j1, j2, rfl, rfl⟩ := hrel
      have cb := cnt_bd ke j
      by_cases hlt : j < p
      · have hcj := hcs.out j (by omega)
        by_cases hk : j = ke
        · subst hk
          have hf : (f j == 61) = true := by rw [hke.out]; rfl
          go_wp2
          go_round
          case rel => exact ⟨j + 1, by omega, by omega, by go_num, by rw [cnt_lo (Nat.le_refl _), cnt_hi (Nat.lt_succ_self _)]; rfl⟩
          case measure => simp [intOf]; omega
        · have hcn : Hid (cnt ke (j + 1) = cnt ke j) := cnt_step hk
          have hor := hall.out j j1 hlt hk
          rcases hor with hs | ⟨hs, hj, hq⟩
          · have hf : (f j == 61) = false := sp_ne hs
            go_wp2_with (go_at_call 13; refine (zzSp_any _ _).mono ?_; rintro e w' ⟨rfl, rfl⟩)
            go_round
            case rel => exact ⟨j + 1, by omega, by omega, by go_num, by rw [hcn.out]⟩
            case measure => simp [intOf]; omega
          · have hjp : ((j : Int) == (p : Int) - 1) = true := by rw [beq_iff_eq]; omega
            have hq2 : (f j == 61) = false ∧ ((f j == 34) = true ∨ (f j == 34) = false ∧ (f j == 39) = true) := by
              rcases hq with hq | hq <;> rw [hq] <;> decide
            clear hj hq
            obtain ⟨hf, hq3⟩ := hq2
            rcases hq3 with hq | ⟨hq, hq'⟩
            all_goals
              go_wp2_with (go_at_call 13; refine (zzSp_any _ _).mono ?_; rintro e w' ⟨rfl, rfl⟩)
              go_round
              case rel => exact ⟨j + 1, by omega, by omega, by go_num, by rw [hcn.out]⟩
              case measure => simp [intOf]; omega
      · have hc1 : Hid (cnt ke j = 1) := cnt_hi (by omega)
        go_wp2
        go_ret
        exact ⟨by rw [hc1.out]; rfl, below2 _ _ _⟩

end Go.Proofs.Qxb6603462a.Stays
