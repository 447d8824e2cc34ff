import Derived.Test.Qxb6603462aWalks
import Derived.Deep.LoopGhost
namespace Go.Proofs.Qxb6603462a
open Go.RowKit

theorem cell_lt {w : World} {a : Addr} {v : Value} (h : w.cell? a = some v) : a.block < w.heap.size := World.block_lt_of_cell? _ _ h

theorem Row8.alloc {w : World} {a : Option Addr} {n : Nat} {f : Nat → Int} (h : Row8 w a n f) (o : Obj) : Row8 (w.alloc o) a n f := by
  intro i hi
  obtain ⟨b, off, ha, hc⟩ := h i hi
  exact ⟨b, off, ha, by rw [World.cell?_alloc_lt _ _ _ (cell_lt hc)]; exact hc⟩

theorem skipSpace_is (a : Option Addr) (n c : Nat) (f : Nat → Int) (i k : Nat) (w : World) (hr : Row8 w a n f) (hn : n ≤ 1048576) (hk : Hid (skipTo sp f n i = k)) :
    Calls Try.prog 23 #[.slice a n c, .int .i64 i] w fun e w' => e = .returned (.int .i64 k) ∧ w' = w := by
  have := skipSpace_any a n c f i w hr hn
  rw [hk.out] at this
  exact this

theorem box_end {w : World} {x0 x1 x2 x3 j z v v' : Int} {X : Value} (hX : X = .int .i64 v) (hz : j = z) (hv : v = v') :
    Ending.returned X = .returned (.int .i64 v') ∧ w.alloc (.cells #[.int .i64 x0, .int .i64 x1, .int .i64 x2, .int .i64 x3, .int .i64 j, .int .i64 v] 25) = w.alloc (.cells #[.int .i64 x0, .int .i64 x1, .int .i64 x2, .int .i64 x3, .int .i64 z, .int .i64 v'] 25) := by
  subst hX hz hv
  exact ⟨rfl, rfl⟩

set_option maxRecDepth 8000 in
set_option maxHeartbeats 400000 in
theorem readValue_end (a : Option Addr) (n c : Nat) (f : Nat → Int) (x0 x1 v ve en : Int) (e k : Nat) (w : World) (hr : Row8 w a n f) (hn : n ≤ 1048576) (hk : Hid (skipTo sp f n e = k)) (h1 : n ≤ k) :
    Calls Try.prog 21 #[.slice a n c, .pointer (some ⟨w.heap.size, 0, none⟩)] (w.alloc (.cells #[.int .i64 x0, .int .i64 x1, .int .i64 e, .int .i64 v, .int .i64 ve, .int .i64 en] 25)) fun r w' =>
      r = .returned (.int .i64 k) ∧ w' = w.alloc (.cells #[.int .i64 x0, .int .i64 x1, .int .i64 e, .int .i64 v, .int .i64 ve, .int .i64 en] 25) := by
  have HR : Hid (Row8 w a n f) := hr
  have HN : Hid (n ≤ 1048576) := hn
  clear hr
  go_enter Try.func21, Try.ntmps21
  go_wp2_with (go_at_call 23; refine (skipSpace_is _ _ _ f _ _ _ (HR.out.alloc _) HN.out hk).mono ?_; rintro e w' ⟨rfl, rfl⟩)
  go_ret
  exact ⟨rfl, rfl⟩

set_option maxRecDepth 8000 in
set_option maxHeartbeats 400000 in
theorem readValue_slash (a : Option Addr) (n c : Nat) (f : Nat → Int) (x0 x1 v ve en : Int) (e k : Nat) (w : World) (hr : Row8 w a n f) (hn : n ≤ 1048576) (hk : Hid (skipTo sp f n e = k)) (h1 : k < n) (h2 : f k = 47) :
    Calls Try.prog 21 #[.slice a n c, .pointer (some ⟨w.heap.size, 0, none⟩)] (w.alloc (.cells #[.int .i64 x0, .int .i64 x1, .int .i64 e, .int .i64 v, .int .i64 ve, .int .i64 en] 25)) fun r w' =>
      r = .returned (.int .i64 ((k : Int) + 1)) ∧ w' = w.alloc (.cells #[.int .i64 x0, .int .i64 x1, .int .i64 e, .int .i64 v, .int .i64 ve, .int .i64 en] 25) := by
  have HR : Hid (Row8 w a n f) := hr
  have HN : Hid (n ≤ 1048576) := hn
  obtain ⟨b, off, rfl, hc⟩ := hr k h1
  have hb : b < w.heap.size := cell_lt hc
  clear hr
  go_enter Try.func21, Try.ntmps21
  go_wp2_with (go_at_call 23; refine (skipSpace_is _ _ _ f _ _ _ (HR.out.alloc _) HN.out hk).mono ?_; rintro e w' ⟨rfl, rfl⟩)
  go_ret
  exact ⟨rfl, rfl⟩

set_option maxRecDepth 8000 in
set_option maxHeartbeats 400000 in
theorem readValue_other (a : Option Addr) (n c : Nat) (f : Nat → Int) (x0 x1 v ve en : Int) (e k : Nat) (w : World) (hr : Row8 w a n f) (hn : n ≤ 1048576) (hk : Hid (skipTo sp f n e = k)) (h1 : k < n) (h2 : (f k == 47) = false) (h3 : (f k != 61) = true) :
    Calls Try.prog 21 #[.slice a n c, .pointer (some ⟨w.heap.size, 0, none⟩)] (w.alloc (.cells #[.int .i64 x0, .int .i64 x1, .int .i64 e, .int .i64 v, .int .i64 ve, .int .i64 en] 25)) fun r w' =>
      r = .returned (.int .i64 k) ∧ w' = w.alloc (.cells #[.int .i64 x0, .int .i64 x1, .int .i64 e, .int .i64 v, .int .i64 ve, .int .i64 en] 25) := by
  have HR : Hid (Row8 w a n f) := hr
  have HN : Hid (n ≤ 1048576) := hn
  obtain ⟨b, off, rfl, hc⟩ := hr k h1
  have hb : b < w.heap.size := cell_lt hc
  clear hr
  go_enter Try.func21, Try.ntmps21
  go_wp2_with (go_at_call 23; refine (skipSpace_is _ _ _ f _ _ _ (HR.out.alloc _) HN.out hk).mono ?_; rintro e w' ⟨rfl, rfl⟩)
  go_ret
  exact ⟨rfl, rfl⟩

set_option maxRecDepth 8000 in
set_option maxHeartbeats 400000 in
theorem readValue_eqend (a : Option Addr) (n c : Nat) (f : Nat → Int) (x0 x1 v ve en : Int) (e k m : Nat) (w : World) (hr : Row8 w a n f) (hn : n ≤ 1048576) (hk : Hid (skipTo sp f n e = k)) (hm : Hid (skipTo sp f n (k + 1) = m)) (h1 : k < n) (h2 : f k = 61) (h4 : n ≤ m) :
    Calls Try.prog 21 #[.slice a n c, .pointer (some ⟨w.heap.size, 0, none⟩)] (w.alloc (.cells #[.int .i64 x0, .int .i64 x1, .int .i64 e, .int .i64 v, .int .i64 ve, .int .i64 en] 25)) fun r w' =>
      r = .returned (.int .i64 m) ∧ w' = w.alloc (.cells #[.int .i64 x0, .int .i64 x1, .int .i64 e, .int .i64 m, .int .i64 m, .int .i64 m] 25) := by
  have HR : Hid (Row8 w a n f) := hr
  have HN : Hid (n ≤ 1048576) := hn
  obtain ⟨b, off, rfl, hc⟩ := hr k h1
  have hb : b < w.heap.size := cell_lt hc
  clear hr
  go_enter Try.func21, Try.ntmps21
  go_wp2_with fail
  refine (skipSpace_is _ _ _ f _ _ _ (HR.out.alloc _) HN.out hk).mono ?_
  rintro _ _ ⟨rfl, rfl⟩
  go_wp2_with fail
  refine (skipSpace_is _ _ _ f _ _ _ (HR.out.alloc _) HN.out hm).mono ?_
  rintro _ _ ⟨rfl, rfl⟩
  go_wp2
  go_ret
  exact ⟨rfl, rfl⟩

set_option maxRecDepth 8000 in
set_option maxHeartbeats 800000 in
theorem readValue_eqgt (a : Option Addr) (n c : Nat) (f : Nat → Int) (x0 x1 v ve en : Int) (e k m : Nat) (w : World) (hr : Row8 w a n f) (hn : n ≤ 1048576) (hk : Hid (skipTo sp f n e = k)) (hm : Hid (skipTo sp f n (k + 1) = m)) (h1 : k < n) (h2 : f k = 61) (h4 : m < n) (h5 : f m = 62) :
    Calls Try.prog 21 #[.slice a n c, .pointer (some ⟨w.heap.size, 0, none⟩)] (w.alloc (.cells #[.int .i64 x0, .int .i64 x1, .int .i64 e, .int .i64 v, .int .i64 ve, .int .i64 en] 25)) fun r w' =>
      r = .returned (.int .i64 m) ∧ w' = w.alloc (.cells #[.int .i64 x0, .int .i64 x1, .int .i64 e, .int .i64 m, .int .i64 m, .int .i64 m] 25) := by
  have HR : Hid (Row8 w a n f) := hr
  have HN : Hid (n ≤ 1048576) := hn
  obtain ⟨b, off, rfl, hc⟩ := hr k h1
  have hb : b < w.heap.size := cell_lt hc
  have hc2 : w.cell? ⟨b, off + m, none⟩ = some (.int .u8 (f m)) := by
    obtain ⟨b', off', e', hc'⟩ := hr m h4
    cases e'
    exact hc'
  have hall : ∀ i, i < n → w.cell? ⟨b, off + i, none⟩ = some (.int .u8 (f i)) := by
    intro i hi
    obtain ⟨b', off', e', hc'⟩ := hr i hi
    cases e'
    exact hc'
  have HA : Hid (∀ i, i < n → w.cell? ⟨b, off + i, none⟩ = some (.int .u8 (f i))) := hall
  clear hr hall
  go_enter Try.func21, Try.ntmps21
  go_wp2_with fail
  refine (skipSpace_is _ _ _ f _ _ _ (HR.out.alloc _) HN.out hk).mono ?_
  rintro _ _ ⟨rfl, rfl⟩
  go_wp2_with fail
  refine (skipSpace_is _ _ _ f _ _ _ (HR.out.alloc _) HN.out hm).mono ?_
  rintro _ _ ⟨rfl, rfl⟩
  clear hc h2 hk hm
  have hnm : ¬ n ≤ m := by omega
  go_wp2
  go_ret
  exact ⟨rfl, rfl⟩

set_option maxRecDepth 8000 in
set_option maxHeartbeats 800000 in
theorem readValue_quoted (a : Option Addr) (n c : Nat) (f : Nat → Int) (x0 x1 v ve en : Int) (e k m z : Nat) (w : World) (hr : Row8 w a n f) (hn : n ≤ 1048576) (hk : Hid (skipTo sp f n e = k)) (hm : Hid (skipTo sp f n (k + 1) = m)) (hz : Hid (skipTo (nq (f m)) f n (m + 1) = z)) (h1 : k < n) (h2 : f k = 61) (h4 : m < n) (h5 : (f m == 62) = false) (h6 : (f m == 34) = true ∨ (f m == 34) = false ∧ (f m == 39) = true) :
    Calls Try.prog 21 #[.slice a n c, .pointer (some ⟨w.heap.size, 0, none⟩)] (w.alloc (.cells #[.int .i64 x0, .int .i64 x1, .int .i64 e, .int .i64 v, .int .i64 ve, .int .i64 en] 25)) fun r w' =>
      r = .returned (.int .i64 ((min (z + 1) n : Nat) : Int)) ∧ w' = w.alloc (.cells #[.int .i64 x0, .int .i64 x1, .int .i64 e, .int .i64 ((m : Int) + 1), .int .i64 z, .int .i64 ((min (z + 1) n : Nat) : Int)] 25) := by
  have HR : Hid (Row8 w a n f) := hr
  have HN : Hid (n ≤ 1048576) := hn
  obtain ⟨b, off, rfl, hc⟩ := hr k h1
  have hb : b < w.heap.size := cell_lt hc
  have hc2 : w.cell? ⟨b, off + m, none⟩ = some (.int .u8 (f m)) := by
    obtain ⟨b', off', e', hc'⟩ := hr m h4
    cases e'
    exact hc'
  have hall : ∀ i, i < n → w.cell? ⟨b, off + i, none⟩ = some (.int .u8 (f i)) := by
    intro i hi
    obtain ⟨b', off', e', hc'⟩ := hr i hi
    cases e'
    exact hc'
  have HA : Hid (∀ i, i < n → w.cell? ⟨b, off + i, none⟩ = some (.int .u8 (f i))) := hall
  clear hr hall
  go_enter Try.func21, Try.ntmps21
  go_wp2_with fail
  refine (skipSpace_is _ _ _ f _ _ _ (HR.out.alloc _) HN.out hk).mono ?_
  rintro _ _ ⟨rfl, rfl⟩
  go_wp2_with fail
  refine (skipSpace_is _ _ _ f _ _ _ (HR.out.alloc _) HN.out hm).mono ?_
  rintro _ _ ⟨rfl, rfl⟩
  clear hc h2 hk hm
  have hnm : ¬ n ≤ m := by omega
  rcases h6 with h6 | ⟨h6, h7⟩
  all_goals
    go_wp2
    go_loopg [] (n - (m + 1)) (fun g wr => ∃ j : Nat, g = n - j ∧ m + 1 ≤ j ∧ j ≤ n ∧ wr = w.alloc (.cells #[.int .i64 x0, .int .i64 x1, .int .i64 e, .int .i64 ((m : Int) + 1), .int .i64 j, .int .i64 m] 25) ∧ Hid (skipTo (nq (f m)) f n j = z))
    case atStart => exact ⟨m + 1, rfl, Nat.le_refl _, h4, rfl, hz⟩
    case round =>
      obtain ⟨j, hg, hj, hjn, rfl, HK⟩ := hrel
      have HG : Hid (gk = n - j) := hg
      clear hg hc2 hz
      by_cases hlt : j < n
      · have hcj := HA.out j hlt
        cases hs : (f j != f m)
        · have HZ : Hid (j = z) := (skipTo_no (nq (f m)) f n j hlt hs).symm.trans HK.out
          clear HK
          go_wp2
          go_ret
          exact box_end rfl (by rw [HZ.out]) (by have := HZ.out; subst this; rw [Nat.min_eq_left (by omega)]; omega)
        · have HZ : Hid (skipTo (nq (f m)) f n (j + 1) = z) := (skipTo_yes (nq (f m)) f n j hlt hs).symm.trans HK.out
          clear HK
          go_wp2
          go_roundg (n - (j + 1))
          case rel => exact ⟨j + 1, rfl, by omega, by omega, by go_num, HZ⟩
          case measure => rw [HG.out]; omega
      · have HZ : Hid (j = z) := (skipTo_ge (nq (f m)) f n j (by omega)).symm.trans HK.out
        clear HK
        go_wp2
        go_ret
        exact box_end rfl (by rw [HZ.out]) (by have := HZ.out; subst this; rw [Nat.min_eq_right (by omega)])

set_option maxRecDepth 8000 in
set_option maxHeartbeats 1000000 in
theorem readValue_unquoted (a : Option Addr) (n c : Nat) (f : Nat → Int) (x0 x1 v ve en : Int) (e k m z : Nat) (w : World) (hr : Row8 w a n f) (hn : n ≤ 1048576) (hk : Hid (skipTo sp f n e = k)) (hm : Hid (skipTo sp f n (k + 1) = m)) (hz : Hid (skipTo un f n m = z)) (h1 : k < n) (h2 : f k = 61) (h4 : m < n) (h5 : (f m == 62) = false) (h6 : (f m == 34) = false) (h7 : (f m == 39) = false) :
    Calls Try.prog 21 #[.slice a n c, .pointer (some ⟨w.heap.size, 0, none⟩)] (w.alloc (.cells #[.int .i64 x0, .int .i64 x1, .int .i64 e, .int .i64 v, .int .i64 ve, .int .i64 en] 25)) fun r w' =>
      r = .returned (.int .i64 z) ∧ w' = w.alloc (.cells #[.int .i64 x0, .int .i64 x1, .int .i64 e, .int .i64 m, .int .i64 z, .int .i64 z] 25) := by
  have HR : Hid (Row8 w a n f) := hr
  have HN : Hid (n ≤ 1048576) := hn
  obtain ⟨b, off, rfl, hc⟩ := hr k h1
  have hb : b < w.heap.size := cell_lt hc
  have hc2 : w.cell? ⟨b, off + m, none⟩ = some (.int .u8 (f m)) := by
    obtain ⟨b', off', e', hc'⟩ := hr m h4
    cases e'
    exact hc'
  have hall : ∀ i, i < n → w.cell? ⟨b, off + i, none⟩ = some (.int .u8 (f i)) := by
    intro i hi
    obtain ⟨b', off', e', hc'⟩ := hr i hi
    cases e'
    exact hc'
  have HA : Hid (∀ i, i < n → w.cell? ⟨b, off + i, none⟩ = some (.int .u8 (f i))) := hall
  clear hr hall
  go_enter Try.func21, Try.ntmps21
  go_wp2_with fail
  refine (skipSpace_is _ _ _ f _ _ _ (HR.out.alloc _) HN.out hk).mono ?_
  rintro _ _ ⟨rfl, rfl⟩
  go_wp2_with fail
  refine (skipSpace_is _ _ _ f _ _ _ (HR.out.alloc _) HN.out hm).mono ?_
  rintro _ _ ⟨rfl, rfl⟩
  clear hc h2 hk hm
  have hnm : ¬ n ≤ m := by omega
  go_wp2
  go_loopg [] (n - m) (fun g wr => ∃ j : Nat, g = n - j ∧ m ≤ j ∧ j ≤ n ∧ wr = w.alloc (.cells #[.int .i64 x0, .int .i64 x1, .int .i64 e, .int .i64 m, .int .i64 j, .int .i64 m] 25) ∧ Hid (skipTo un f n j = z))
  case atStart => exact ⟨m, rfl, Nat.le_refl _, by omega, rfl, hz⟩
  case round =>
    obtain ⟨j, hg, hj, hjn, rfl, HK⟩ := hrel
    have HG : Hid (gk = n - j) := hg
    clear hg hc2 hz
    by_cases hlt : j < n
    · have hcj := HA.out j hlt
      cases hs : sp (f j)
      · cases ht : (f j != 62)
        · have HZ : Hid (j = z) := (skipTo_no un f n j hlt (by simp only [un, hs, ht]; rfl)).symm.trans HK.out
          clear HK
          go_wp2_with (go_at_call 22; refine (isSpace_any _ _).mono ?_; rintro e w' ⟨rfl, rfl⟩)
          go_ret
          exact box_end rfl (by rw [HZ.out]) (by rw [HZ.out])
        · have HZ : Hid (skipTo un f n (j + 1) = z) := (skipTo_yes un f n j hlt (by simp only [un, hs, ht]; rfl)).symm.trans HK.out
          clear HK
          go_wp2_with (go_at_call 22; refine (isSpace_any _ _).mono ?_; rintro e w' ⟨rfl, rfl⟩)
          go_roundg (n - (j + 1))
          case rel => exact ⟨j + 1, rfl, by omega, by omega, by go_num, HZ⟩
          case measure => rw [HG.out]; omega
      · have HZ : Hid (j = z) := (skipTo_no un f n j hlt (by simp only [un, hs]; rfl)).symm.trans HK.out
        clear HK
        go_wp2_with (go_at_call 22; refine (isSpace_any _ _).mono ?_; rintro e w' ⟨rfl, rfl⟩)
        go_ret
        exact box_end rfl (by rw [HZ.out]) (by rw [HZ.out])
    · have HZ : Hid (j = z) := (skipTo_ge un f n j (by omega)).symm.trans HK.out
      clear HK
      go_wp2
      go_ret
      exact box_end rfl (by rw [HZ.out]) (by rw [HZ.out])

end Go.Proofs.Qxb6603462a
