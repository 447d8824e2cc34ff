import Derived.Test.Qxb6603462aReadAll
namespace Go.Proofs.Qxb6603462a.Use
open Go.RowKit

theorem row8_new (w : World) (cs : List Value) (n : Nat) (f : Nat → Int) (hcs : ∀ i, i < n → cs[i]? = some (.int .u8 (f i))) :
    Row8 (w.alloc (.cells cs.toArray 5)) (some ⟨w.heap.size, 0, none⟩) n f := by
  intro i hi
  exact ⟨w.heap.size, 0, rfl, by rw [World.cell?_alloc_new]; simpa using hcs i hi⟩

theorem row8_zero (w : World) (q : Option Addr) (f : Nat → Int) : Row8 w q 0 f := fun i hi => absurd hi (Nat.not_lt_zero i)

theorem zzReadValue_at (B : Nat) (a : Option Addr) (n c : Nat) (f : Nat → Int) (x0 x1 v ve en : Int) (e : Nat) (N V VE EN : Int) (w : World) (hr : Row8 w a n f) (hn : n ≤ 1048576) (hB : B = w.heap.size) (hrv : Hid (rv f n e v ve en = (N, V, VE, EN))) :
    Calls Try.prog 10 #[.slice a n c, .pointer (some ⟨B, 0, none⟩)] (w.alloc (.cells #[.int .i64 x0, .int .i64 x1, .int .i64 e, .int .i64 v, .int .i64 ve, .int .i64 en] 25)) fun r w' =>
      r = .returned (.int .i64 N) ∧ w.alloc (.cells #[.int .i64 x0, .int .i64 x1, .int .i64 e, .int .i64 V, .int .i64 VE, .int .i64 EN] 25) = w' := by
  subst hB
  exact (zzReadValue_is a n c f x0 x1 v ve en e N V VE EN w hr hn hrv).mono fun _ _ h => ⟨h.1, h.2.symm⟩

theorem below1 (w : World) (o1 : Obj) : Below w.heap.size w (w.alloc o1) := (Below.refl _ _).alloc (Nat.le_refl _) _
theorem below2 (w : World) (o1 o2 : Obj) : Below w.heap.size w ((w.alloc o1).alloc o2) := ((Below.refl _ _).alloc (Nat.le_refl _) _).alloc (by simp) _

end Go.Proofs.Qxb6603462a.Use
