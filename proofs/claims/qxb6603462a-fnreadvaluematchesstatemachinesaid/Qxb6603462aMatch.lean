import Derived.Test.Qxb6603462aMachine
namespace Go.Proofs.Qxb6603462a.Match
open Go.RowKit Go.Proofs.Qxb6603462a.Use Go.Proofs.Qxb6603462a.Machine

set_option maxHeartbeats 400000 in
theorem bytes_no (a : Option Addr) (len cap : Nat) (a1 a2 a3 a4 a5 a6 : Int) (w : World) (h : 1048576 < len) (h2 : len ≤ 9223372036854775807) :
    Calls Try.prog 9 #[.slice a len cap, .int .i64 a1, .int .i64 a2, .int .i64 a3, .int .i64 a4, .int .i64 a5, .int .i64 a6] w fun e w' => e = .returned (.bool false) ∧ w = w' := by
  go_enter Try.func9, Try.ntmps9
  go_wp2
  go_ret
  exact ⟨rfl, rfl⟩

set_option maxHeartbeats 400000 in
theorem bytes_yes (a : Option Addr) (len cap : Nat) (a1 a2 a3 a4 a5 a6 : Int) (w : World) (h : len ≤ 1048576) :
    Calls Try.prog 9 #[.slice a len cap, .int .i64 a1, .int .i64 a2, .int .i64 a3, .int .i64 a4, .int .i64 a5, .int .i64 a6] w fun e w' => e = .returned (.bool true) ∧ w = w' := by
  go_enter Try.func9, Try.ntmps9
  go_wp2
  go_ret
  exact ⟨rfl, rfl⟩

set_option maxRecDepth 8000 in
set_option maxHeartbeats 400000 in
theorem long (a : Option Addr) (len cap : Nat) (a1 a2 a3 a4 a5 a6 : Int) (w : World) (h : 1048576 < len) (h2 : len ≤ 9223372036854775807) :
    Calls Try.prog 3 #[.slice a len cap, .int .i64 a1, .int .i64 a2, .int .i64 a3, .int .i64 a4, .int .i64 a5, .int .i64 a6] w fun r w' => r = .returned (.bool true) ∧ Below w.heap.size w w' := by
  go_enter Try.func3, Try.ntmps3
  go_wp2_with fail
  refine (bytes_no _ _ _ _ _ _ _ _ _ _ h h2).mono ?_
  rintro _ _ ⟨rfl, rfl⟩
  go_wp2
  go_ret
  exact ⟨rfl, Below.refl _ _⟩

set_option maxRecDepth 8000 in
set_option maxHeartbeats 400000 in
theorem out (a : Option Addr) (len cap : Nat) (a1 a2 a3 a4 a5 a6 : Int) (w : World) (h : len ≤ 1048576) (h2 : a3 < 0) :
    Calls Try.prog 3 #[.slice a len cap, .int .i64 a1, .int .i64 a2, .int .i64 a3, .int .i64 a4, .int .i64 a5, .int .i64 a6] w fun r w' => r = .returned (.bool true) ∧ Below w.heap.size w w' := by
  go_enter Try.func3, Try.ntmps3
  go_wp2_with fail
  refine (bytes_yes _ _ _ _ _ _ _ _ _ _ h).mono ?_
  rintro _ _ ⟨rfl, rfl⟩
  go_wp2
  go_ret
  exact ⟨rfl, Below.refl _ _⟩

set_option maxRecDepth 8000 in
set_option maxHeartbeats 1000000 in
theorem nil (a1 a2 : Int) (e : Nat) (a4 a5 a6 : Int) (w : World) :
    Calls Try.prog 3 #[.slice none 0 0, .int .i64 a1, .int .i64 a2, .int .i64 e, .int .i64 a4, .int .i64 a5, .int .i64 a6] w fun r w' => r = .returned (.bool true) ∧ Below w.heap.size w w' := by
  have hnn := run_neq_slice_nil_any (P := Try.prog) w 22 5 none 0 0 0 0 Try.underlying22
  have R1 : Hid (rv (fun _ => 0) 0 e a4 a5 a6 = ((e : Int), a4, a5, a6)) := rv_past _ _ _ _ _ _ (Nat.zero_le _)
  go_enter Try.func3, Try.ntmps3
  go_wp2_with fail
  refine (bytes_yes _ _ _ _ _ _ _ _ _ _ (by omega)).mono ?_
  rintro _ _ ⟨rfl, rfl⟩
  go_wp2_with fail
  refine (zzReadValue_at _ _ _ _ (fun _ => 0) _ _ _ _ _ _ _ _ _ _ w (row8_zero _ _ _) (by omega) rfl R1).mono ?_
  rintro _ _ ⟨rfl, rfl⟩
  go_wp2_with fail
  refine (model_is _ _ _ (fun _ => 0) _ _ _ _ _ _ _ _ _ (row8_zero _ _ _) (by omega) R1).mono ?_
  rintro _ _ ⟨rfl, rfl⟩
  go_wp2
  go_ret
  exact ⟨rfl, below1 _ _⟩

set_option maxRecDepth 8000 in
set_option maxHeartbeats 1000000 in
theorem main (x : Addr) (len cap : Nat) (cs : List Value) (f : Nat → Int) (a1 a2 : Int) (e : Nat) (a4 a5 a6 N V VE EN : Int) (w : World) (hle : len ≤ 1048576) (hl : Hid (cs.length = len))
    (hsrc : Hid (∀ j v, cs[j]? = some v → w.cell? (x.add j) = some v)) (h1 : Hid (∀ v ∈ cs, v.oneCell' = true)) (hcs : Hid (∀ i, i < len → cs[i]? = some (.int .u8 (f i))))
    (R1 : Hid (rv f len e a4 a5 a6 = (N, V, VE, EN))) :
    Calls Try.prog 3 #[.slice (some x) len cap, .int .i64 a1, .int .i64 a2, .int .i64 e, .int .i64 a4, .int .i64 a5, .int .i64 a6] w fun r w' => r = .returned (.bool true) ∧ Below w.heap.size w w' := by
  have hmk := make_run len hle
  have hcp : ∀ ty, (Builtin.copy_ #[22, 22] ty #[.slice (some ⟨w.heap.size, 0, none⟩) len len, .slice (some x) len cap]).run Try.prog (w.alloc (.cells (madeCells #[.int .u8 0] len) 5)) = .ok (goInt len) (w.alloc (.cells cs.toArray 5)) := fun ty => copy_run w x len cap ty cs hl.out hsrc.out h1.out
  have hnn := run_neq_slice_nil_any (P := Try.prog) w 22 5 (some x) len cap 0 0 Try.underlying22
  go_enter Try.func3, Try.ntmps3
  go_wp2_with fail
  refine (bytes_yes _ _ _ _ _ _ _ _ _ _ hle).mono ?_
  rintro _ _ ⟨rfl, rfl⟩
  go_wp2_with fail
  refine (zzReadValue_at _ _ _ _ f _ _ _ _ _ _ _ _ _ _ (w.alloc (.cells cs.toArray 5)) (row8_new w cs len f hcs.out) hle (by simp) R1).mono ?_
  rintro _ _ ⟨rfl, rfl⟩
  clear hmk hcp hnn
  go_wp2_with fail
  refine (model_is _ _ _ f _ _ _ _ _ _ _ _ _ ((row8_new w cs len f hcs.out).alloc _) hle R1).mono ?_
  rintro _ _ ⟨rfl, rfl⟩
  go_wp2
  go_ret
  exact ⟨rfl, below2 _ _ _⟩

end Go.Proofs.Qxb6603462a.Match
