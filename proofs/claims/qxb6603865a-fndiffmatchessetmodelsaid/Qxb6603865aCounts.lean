import Derived.Test.Qxb6603865aDiffMem
namespace Go.Proofs.Qxb6603865a
open Go.RowKit

/-- A list of changes, all of them additions. -/
def RowA (w : World) (a : Option Addr) (n : Nat) (P : Nat → ByteArray) : Prop :=
  ∀ i, i < n → ∃ b off, a = some ⟨b, off, none⟩ ∧ w.cell? ⟨b, off + i * 2, none⟩ = some (.int .i64 1) ∧ w.cell? ⟨b, off + i * 2 + 1, none⟩ = some (.string (P i))

theorem RowA.later {w wr : World} {a : Option Addr} {n : Nat} {P : Nat → ByteArray} (h : RowA w a n P) (hb : Below w.heap.size w wr) : RowA wr a n P := by
  intro i hi
  obtain ⟨b, off, ha, h0, h1⟩ := h i hi
  exact ⟨b, off, ha, cell_later hb h0, cell_later hb h1⟩

theorem below3 (w : World) (A B C : Obj) : Below w.heap.size w (((w.alloc A).alloc B).alloc C) := (((Below.refl _ _).alloc (Nat.le_refl _) _).alloc (by simp) _).alloc (by simp; omega) _
theorem heap3_1 (w : World) (A B C : Obj) : (((w.alloc A).alloc B).alloc C).heap[w.heap.size + 1]? = some B := by
  rw [Below.heap_alloc _ _ _ (by simp)]
  have := heap_alloc_at (w.alloc A) B
  simpa using this
theorem heap3_2 (w : World) (A B C : Obj) : (((w.alloc A).alloc B).alloc C).heap[w.heap.size + 1 + 1]? = some C := by
  have := heap_alloc_at ((w.alloc A).alloc B) C
  simpa using this

set_option maxRecDepth 8000 in
set_option maxHeartbeats 2000000 in
theorem counts_any (a : Option Addr) (n c : Nat) (P : Nat → ByteArray) (f : Bool) (w : World) (h : RowA w a n P) (hn : n ≤ 1048576) :
    Calls Try.prog 17 #[.agg #[.slice a n c, .bool f]] w fun e w' => e = .returned (.agg #[.int .i64 n, .int .i64 0, .int .i64 0, .bool f]) ∧ Below w.heap.size w w' := by
  have HR : Hid (RowA w a n P) := h
  clear h
  go_enter Try.func17, Try.ntmps17
  go_wp2
  go_loopg [12] n (fun g t wr => ∃ i : Nat, t = .int .i64 i ∧ g = n - i ∧ i ≤ n ∧ Below w.heap.size w wr ∧ wr.heap[w.heap.size + 1]? = some (.cells #[.int .i64 0, .int .i64 0, .int .i64 0, .bool false] 47 (0, 0)) ∧ wr.heap[w.heap.size + 1 + 1]? = some (.cells #[.int .i64 i, .int .i64 0, .int .i64 0, .bool f] 47 (0, 0)))
  case atStart => exact ⟨0, rfl, rfl, Nat.zero_le _, below3 _ _ _ _, heap3_1 _ _ _ _, heap3_2 _ _ _ _⟩
  case round =>
    obtain ⟨i, rfl, hg, hi, hb, hz, hx⟩ := hrel
    have HG : Hid (gk = n - i) := hg
    have HB : Hid (Below w.heap.size w wr) := hb
    have HZ : Hid (wr.heap[w.heap.size + 1]? = some (.cells #[.int .i64 0, .int .i64 0, .int .i64 0, .bool false] 47 (0, 0))) := hz
    have HX : Hid (wr.heap[w.heap.size + 1 + 1]? = some (.cells #[.int .i64 i, .int .i64 0, .int .i64 0, .bool f] 47 (0, 0))) := hx
    have hlt2 : w.heap.size + 1 + 1 < wr.heap.size := (Array.getElem?_eq_some_iff.1 hx).1
    have x0 : wr.cell? ⟨w.heap.size + 1 + 1, 0, none⟩ = some (.int .i64 i) := by rw [cell_of_row wr _ _ _ 47 (0, 0) hx]; rfl
    have x1 : wr.cell? ⟨w.heap.size + 1 + 1, 1, none⟩ = some (.int .i64 0) := by rw [cell_of_row wr _ _ _ 47 (0, 0) hx]; rfl
    have x2 : wr.cell? ⟨w.heap.size + 1 + 1, 2, none⟩ = some (.int .i64 0) := by rw [cell_of_row wr _ _ _ 47 (0, 0) hx]; rfl
    have x3 : wr.cell? ⟨w.heap.size + 1 + 1, 3, none⟩ = some (.bool f) := by rw [cell_of_row wr _ _ _ 47 (0, 0) hx]; rfl
    have xf : wr.frozen? ⟨w.heap.size + 1 + 1, 0, none⟩ = false := by simp [World.frozen?, hx]
    by_cases hlt : i < n
    · obtain ⟨b, off, rfl, h0, h1⟩ := HR.out.later hb i hlt
      have hbb := World.block_lt_of_cell? _ _ h0
      clear hg hb hz hx
      go_wp2
      go_roundg (n - (i + 1))
      case rel =>
        refine ⟨i + 1, by go_num, rfl, by omega, ?_, ?_, ?_⟩
        · exact (HB.out.setCell (by show w.heap.size ≤ w.heap.size + 1 + 1; omega) _).alloc (by simp; omega) _
        · rw [Below.heap_alloc _ _ _ (by simp; omega), Below.heap_setCell _ _ _ _ (by show w.heap.size + 1 ≠ w.heap.size + 1 + 1; omega)]
          exact HZ.out
        · rw [Below.heap_alloc _ _ _ (by simp; omega), heap_setCell_at wr (w.heap.size + 1 + 1) 0 _ 47 _ HX.out]
          rfl
      case measure => rw [HG.out]; omega
    · have hin : i = n := by omega
      subst hin
      have y0 : ∀ o, wr.frozen? ⟨w.heap.size + 1, o, none⟩ = false := fun o => by simp [World.frozen?, hz]
      have z0 : wr.cell? ⟨w.heap.size + 1, 0, none⟩ = some (.int .i64 0) := by rw [cell_of_row wr _ _ _ 47 (0, 0) hz]; rfl
      have z1 : wr.cell? ⟨w.heap.size + 1, 1, none⟩ = some (.int .i64 0) := by rw [cell_of_row wr _ _ _ 47 (0, 0) hz]; rfl
      have z2 : wr.cell? ⟨w.heap.size + 1, 2, none⟩ = some (.int .i64 0) := by rw [cell_of_row wr _ _ _ 47 (0, 0) hz]; rfl
      have z3 : wr.cell? ⟨w.heap.size + 1, 3, none⟩ = some (.bool false) := by rw [cell_of_row wr _ _ _ 47 (0, 0) hz]; rfl
      clear hg hb hz hx
      go_wp2
      (try simp only [Exit.inBlock, Exit.then])
      refine bodyPost_ret (v := .agg #[.int .i64 i, .int .i64 0, .int .i64 0, .bool f]) ?_ rfl ?_
      · simp [results, Try.results17, go_sem, *]
      exact ⟨rfl, (((HB.out.setCell (Nat.le_succ _) _).setCell (Nat.le_succ _) _).setCell (Nat.le_succ _) _).setCell (Nat.le_succ _) _⟩

end Go.Proofs.Qxb6603865a
