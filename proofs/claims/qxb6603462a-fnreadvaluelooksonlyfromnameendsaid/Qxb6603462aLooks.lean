import Derived.Test.Qxb6603462aReadAll
import Derived.Test.Qxb6603462aPlainLooks
namespace Go.Proofs.Qxb6603462a
open Go.RowKit

set_option maxHeartbeats 400000 in
theorem bytesLooks_no (a : Option Addr) (len cap : Nat) (a1 a2 a3 a4 : Int) (w : World) (h : 1048576 < len) (h2 : len ≤ 9223372036854775807) :
    Calls Try.prog 14 #[.slice a len cap, .int .i64 a1, .int .i64 a2, .int .i64 a3, .int .i64 a4] w fun e w' => e = .returned (.bool false) ∧ w = w' := by
  go_enter Try.func14, Try.ntmps14
  go_wp2
  go_ret
  exact ⟨rfl, rfl⟩

set_option maxHeartbeats 400000 in
theorem bytesLooks_yes (a : Option Addr) (len cap : Nat) (a1 a2 a3 a4 : Int) (w : World) (h : len ≤ 1048576) :
    Calls Try.prog 14 #[.slice a len cap, .int .i64 a1, .int .i64 a2, .int .i64 a3, .int .i64 a4] w fun e w' => e = .returned (.bool true) ∧ w = w' := by
  go_enter Try.func14, Try.ntmps14
  go_wp2
  go_ret
  exact ⟨rfl, rfl⟩

theorem row8_new (w : World) (cs : List Value) (n : Nat) (f : Nat → Int) (hcs : ∀ i, i < n → cs[i]? = some (.int .u8 (f i))) :
    Row8 (w.alloc (.cells cs.toArray 5)) (some ⟨w.heap.size, 0, none⟩) n f := by
  intro i hi
  exact ⟨w.heap.size, 0, rfl, by rw [World.cell?_alloc_new]; simpa using hcs i hi⟩

theorem row8_cut {w : World} {b : Nat} {n e : Nat} {f : Nat → Int} (h : Row8 w (some ⟨b, 0, none⟩) n f) (q : Option Addr) (hq : e < n → q = some ⟨b, e, none⟩) : Row8 w q (n - e) (fun i => f (e + i)) := by
  intro i hi
  obtain ⟨b', off', e', hc⟩ := h (e + i) (by omega)
  cases e'
  exact ⟨b, e, hq (by omega), by simpa using hc⟩

theorem zzReadValue_at (B : Nat) (a : Option Addr) (n c : Nat) (f : Nat → Int) (x0 x1 v ve en : Int) (e : Nat) (N V VE EN : Int) (w : World) (hr : Row8 w a n f) (hn : n ≤ 1048576) (hB : B = w.heap.size) (hrv : Hid (rv f n e v ve en = (N, V, VE, EN))) :
    Calls Try.prog 10 #[.slice a n c, .pointer (some ⟨B, 0, none⟩)] (w.alloc (.cells #[.int .i64 x0, .int .i64 x1, .int .i64 e, .int .i64 v, .int .i64 ve, .int .i64 en] 25)) fun r w' =>
      r = .returned (.int .i64 N) ∧ w.alloc (.cells #[.int .i64 x0, .int .i64 x1, .int .i64 e, .int .i64 V, .int .i64 VE, .int .i64 EN] 25) = w' := by
  subst hB
  exact (zzReadValue_is a n c f x0 x1 v ve en e N V VE EN w hr hn hrv).mono fun _ _ h => ⟨h.1, h.2.symm⟩

theorem below2 (w : World) (o1 o2 : Obj) : Below w.heap.size w ((w.alloc o1).alloc o2) := ((Below.refl _ _).alloc (Nat.le_refl _) _).alloc (by simp) _
theorem below3 (w : World) (o1 o2 o3 : Obj) : Below w.heap.size w (((w.alloc o1).alloc o2).alloc o3) := (below2 w o1 o2).alloc (by simp; omega) _

theorem row8_zero (w : World) (q : Option Addr) (f : Nat → Int) : Row8 w q 0 f := fun i hi => absurd hi (Nat.not_lt_zero i)

set_option maxRecDepth 8000 in
set_option maxHeartbeats 1000000 in
theorem looks_lt (x : Addr) (len cap : Nat) (cs : List Value) (f : Nat → Int) (e : Nat) (a2 a3 a4 : Int) (w : World) (hle : len ≤ 1048576) (he : e < len) (hl : Hid (cs.length = len))
    (hsrc : Hid (∀ j v, cs[j]? = some v → w.cell? (x.add j) = some v)) (h1 : Hid (∀ v ∈ cs, v.oneCell' = true)) (hcs : Hid (∀ i, i < len → cs[i]? = some (.int .u8 (f i)))) :
    Calls Try.prog 5 #[.slice (some x) len cap, .int .i64 e, .int .i64 a2, .int .i64 a3, .int .i64 a4] w fun r w' => r = .returned (.bool true) ∧ Below w.heap.size w w' := by
  have hmk := make_run len hle
  have hcp : ∀ ty, (Builtin.copy_ #[22, 22] ty #[.slice (some ⟨w.heap.size, 0, none⟩) len len, .slice (some x) len cap]).run Try.prog (w.alloc (.cells (madeCells #[.int .u8 0] len) 5)) = .ok (goInt len) (w.alloc (.cells cs.toArray 5)) := fun ty => copy_run w x len cap ty cs hl.out hsrc.out h1.out
  have hnn := run_neq_slice_nil_any (P := Try.prog) w 22 5 (some x) len cap 0 0 Try.underlying22
  obtain ⟨N, tN, V, VE, EN, tV, tVE, tEN, r1, r2, hN, htN, hd⟩ := rv_shift f len e (by omega) a2 a3 a4
  have R1 : Hid (rv f len e a2 a3 a4 = ((N : Int), V, VE, EN)) := r1
  have R2 : Hid (rv (fun i => f (e + i)) (len - e) 0 (-1) (-1) (-1) = ((tN : Int), tV, tVE, tEN)) := r2
  subst hN
  clear r1 r2
  have h2 : ¬ (e : Int) < 0 := by omega
  have hne : ¬ len = e := by omega
  have h3 : ¬ len < e := by omega
  rcases hd with ⟨rfl, rfl, rfl, rfl, rfl, rfl⟩ | ⟨a, b, c, ha, hb, hc, rfl, rfl, rfl, rfl, rfl, rfl⟩
  all_goals
    go_enter Try.func5, Try.ntmps5
    go_wp2_with fail
    refine (bytesLooks_yes _ _ _ _ _ _ _ _ hle).mono ?_
    rintro _ _ ⟨rfl, rfl⟩
    go_wp2_with fail
    refine (zzReadValue_at _ _ _ _ f _ _ _ _ _ _ _ _ _ _ (w.alloc (.cells cs.toArray 5)) (row8_new w cs len f hcs.out) hle (by simp) R1).mono ?_
    rintro _ _ ⟨rfl, rfl⟩
    clear hmk hcp hnn
    go_wp2_with fail
    refine (zzReadValue_at _ _ _ _ (fun i => f (e + i)) _ _ _ _ _ 0 _ _ _ _ ((w.alloc (.cells cs.toArray 5)).alloc _) ((row8_cut (row8_new w cs len f hcs.out) _ (fun _ => rfl)).alloc _) (by omega) (by simp) R2).mono ?_
    rintro _ _ ⟨rfl, rfl⟩
    go_wp2
    go_ret
    exact ⟨rfl, below3 _ _ _ _⟩

set_option maxRecDepth 8000 in
set_option maxHeartbeats 1000000 in
theorem looks_eq (x : Addr) (len cap : Nat) (cs : List Value) (f : Nat → Int) (a2 a3 a4 : Int) (w : World) (hle : len ≤ 1048576) (hl : Hid (cs.length = len))
    (hsrc : Hid (∀ j v, cs[j]? = some v → w.cell? (x.add j) = some v)) (h1 : Hid (∀ v ∈ cs, v.oneCell' = true)) (hcs : Hid (∀ i, i < len → cs[i]? = some (.int .u8 (f i)))) :
    Calls Try.prog 5 #[.slice (some x) len cap, .int .i64 len, .int .i64 a2, .int .i64 a3, .int .i64 a4] w fun r w' => r = .returned (.bool true) ∧ Below w.heap.size w w' := by
  have hmk := make_run len hle
  have hcp : ∀ ty, (Builtin.copy_ #[22, 22] ty #[.slice (some ⟨w.heap.size, 0, none⟩) len len, .slice (some x) len cap]).run Try.prog (w.alloc (.cells (madeCells #[.int .u8 0] len) 5)) = .ok (goInt len) (w.alloc (.cells cs.toArray 5)) := fun ty => copy_run w x len cap ty cs hl.out hsrc.out h1.out
  have hnn := run_neq_slice_nil_any (P := Try.prog) w 22 5 (some x) len cap 0 0 Try.underlying22
  obtain ⟨N, tN, V, VE, EN, tV, tVE, tEN, r1, r2, hN, htN, hd⟩ := rv_shift f len len (by omega) a2 a3 a4
  have R1 : Hid (rv f len len a2 a3 a4 = ((N : Int), V, VE, EN)) := r1
  have R2 : Hid (rv (fun i => f (len + i)) 0 0 (-1) (-1) (-1) = ((tN : Int), tV, tVE, tEN)) := by rw [Nat.sub_self] at r2; exact r2
  subst hN
  clear r1 r2
  have h2 : ¬ (len : Int) < 0 := by omega
  rcases hd with ⟨rfl, rfl, rfl, rfl, rfl, rfl⟩ | ⟨a, b, c, ha, hb, hc, rfl, rfl, rfl, rfl, rfl, rfl⟩
  all_goals
    go_enter Try.func5, Try.ntmps5
    go_wp2_with fail
    refine (bytesLooks_yes _ _ _ _ _ _ _ _ hle).mono ?_
    rintro _ _ ⟨rfl, rfl⟩
    go_wp2_with fail
    refine (zzReadValue_at _ _ _ _ f _ _ _ _ _ _ _ _ _ _ (w.alloc (.cells cs.toArray 5)) (row8_new w cs len f hcs.out) hle (by simp) R1).mono ?_
    rintro _ _ ⟨rfl, rfl⟩
    clear hmk hcp hnn
    go_wp2_with fail
    refine (zzReadValue_at _ _ _ _ (fun i => f (len + i)) _ _ _ _ _ 0 _ _ _ _ ((w.alloc (.cells cs.toArray 5)).alloc _) (row8_zero _ _ _) (by omega) (by simp) R2).mono ?_
    rintro _ _ ⟨rfl, rfl⟩
    go_wp2
    go_ret
    exact ⟨rfl, below3 _ _ _ _⟩

set_option maxRecDepth 8000 in
set_option maxHeartbeats 1000000 in
theorem looks_nil (a2 a3 a4 : Int) (w : World) :
    Calls Try.prog 5 #[.slice none 0 0, .int .i64 0, .int .i64 a2, .int .i64 a3, .int .i64 a4] w fun r w' => r = .returned (.bool true) ∧ Below w.heap.size w w' := by
  have hnn := run_neq_slice_nil_any (P := Try.prog) w 22 5 none 0 0 0 0 Try.underlying22
  have R1 : Hid (rv (fun _ => 0) 0 0 a2 a3 a4 = (0, a2, a3, a4)) := rfl
  have R2 : Hid (rv (fun _ => 0) 0 0 (-1) (-1) (-1) = (0, -1, -1, -1)) := rfl
  go_enter Try.func5, Try.ntmps5
  go_wp2_with fail
  refine (bytesLooks_yes _ _ _ _ _ _ _ _ (by omega)).mono ?_
  rintro _ _ ⟨rfl, rfl⟩
  go_wp2_with fail
  refine (zzReadValue_at _ _ _ _ (fun _ => 0) _ _ _ _ _ 0 _ _ _ _ w (row8_zero _ _ _) (by omega) rfl R1).mono ?_
  rintro _ _ ⟨rfl, rfl⟩
  go_wp2_with fail
  refine (zzReadValue_at _ _ _ _ (fun _ => 0) _ _ _ _ _ 0 _ _ _ _ (w.alloc _) (row8_zero _ _ _) (by omega) (by simp) R2).mono ?_
  rintro _ _ ⟨rfl, rfl⟩
  go_wp2
  go_ret
  exact ⟨rfl, below2 _ _ _⟩

set_option maxRecDepth 8000 in
set_option maxHeartbeats 400000 in
theorem looks_long (a : Option Addr) (len cap : Nat) (a1 a2 a3 a4 : Int) (w : World) (h : 1048576 < len) (h2 : len ≤ 9223372036854775807) :
    Calls Try.prog 5 #[.slice a len cap, .int .i64 a1, .int .i64 a2, .int .i64 a3, .int .i64 a4] w fun r w' => r = .returned (.bool true) ∧ Below w.heap.size w w' := by
  go_enter Try.func5, Try.ntmps5
  go_wp2_with fail
  refine (bytesLooks_no _ _ _ _ _ _ _ _ h h2).mono ?_
  rintro _ _ ⟨rfl, rfl⟩
  go_wp2
  go_ret
  exact ⟨rfl, Below.refl _ _⟩

set_option maxRecDepth 8000 in
set_option maxHeartbeats 400000 in
theorem looks_out (a : Option Addr) (len cap : Nat) (a1 a2 a3 a4 : Int) (w : World) (h : len ≤ 1048576) (h2 : a1 < 0 ∨ ¬ a1 < 0 ∧ (len : Int) < a1) :
    Calls Try.prog 5 #[.slice a len cap, .int .i64 a1, .int .i64 a2, .int .i64 a3, .int .i64 a4] w fun r w' => r = .returned (.bool true) ∧ Below w.heap.size w w' := by
  rcases h2 with h2 | ⟨h2, h3⟩
  all_goals
    go_enter Try.func5, Try.ntmps5
    go_wp2_with fail
    refine (bytesLooks_yes _ _ _ _ _ _ _ _ h).mono ?_
    rintro _ _ ⟨rfl, rfl⟩
    go_wp2
    go_ret
    exact ⟨rfl, Below.refl _ _⟩

end Go.Proofs.Qxb6603462a
