import Derived.Test.Qxb6603865aWalks
import Derived.Laws.CopyOwn
namespace Go.Proofs.Qxb6603865a
open Go.RowKit

theorem info9 : (Try.prog.info? 9).map (fun i => (i.zero, i.size, i.bytes)) = some (some (.string ByteArray.empty), 1, 16) := by kernel_rfl
theorem size9 : (Try.prog.info? 9).map (·.size) = some 1 := by kernel_rfl

theorem make_run (len : Nat) (h : len ≤ 1048576) (w : World) :
    (Instr.makeSlice 26 (.int .i64 (len : Int)) (.int .i64 (len : Int))).run Try.prog w = .ok (.slice (some ⟨w.heap.size, 0, none⟩) len len) (w.alloc (.cells (madeCells #[.string ByteArray.empty] len) 9)) := by
  obtain ⟨i, hi, hz, hs, hb⟩ := info_parts info9
  have := run_make (P := Try.prog) w 26 9 i (.string ByteArray.empty) Try.underlying26 hi hz .i64 .i64 len len (by omega) (Int.le_refl _) (by rw [hb]; omega) (by omega)
  rw [hs] at this
  simpa [Value.cells] using this

theorem heap_alloc_at (w : World) (o : Obj) : (w.alloc o).heap[w.heap.size]? = some o := by
  show (w.heap.push o)[w.heap.size]? = _
  simp

theorem setRow_alloc (w : World) (c d : Array Value) (t : TypeId) : (w.alloc (.cells c t)).setRow w.heap.size d = w.alloc (.cells d t) := by
  unfold World.setRow World.alloc
  congr 1
  apply Array.ext_getElem?
  intro k
  simp only [Array.getElem?_modify, Array.getElem?_push]
  by_cases hk : k = w.heap.size
  · subst hk; simp
  · simp [hk, Ne.symm hk]

/-- The cells of a row of strings. -/
def strsL (g : Nat → ByteArray) (n : Nat) : List Value := (List.range n).map fun i => .string (g i)
theorem strsL_length (g : Nat → ByteArray) (n : Nat) : (strsL g n).length = n := by simp [strsL]
theorem strsL_get (g : Nat → ByteArray) (n i : Nat) (h : i < n) : (strsL g n)[i]? = some (.string (g i)) := by simp [strsL, h]
theorem strsL_one (g : Nat → ByteArray) (n : Nat) : ∀ v ∈ strsL g n, v.oneCell' = true := by
  intro v hv
  obtain ⟨i, _, rfl⟩ := List.mem_map.1 hv
  rfl

theorem copy_run (w : World) (x : Addr) (len cap : Nat) (ty : TypeId) (g : Nat → ByteArray) (hr : RowS w (some x) len g) :
    (Builtin.copy_ #[26, 26] ty #[.slice (some ⟨w.heap.size, 0, none⟩) len len, .slice (some x) len cap]).run Try.prog (w.alloc (.cells (madeCells #[.string ByteArray.empty] len) 9)) = .ok (goInt len) (w.alloc (.cells (strsL g len).toArray 9)) := by
  have hl := strsL_length g len
  have h := run_copy_row (P := Try.prog) (w.alloc (.cells (madeCells #[.string ByteArray.empty] len) 9)) 26 26 ty 9 w.heap.size 0 len len x len cap (madeCells #[.string ByteArray.empty] len) 9 (strsL g len) Try.underlying26 size9
    (heap_alloc_at _ _) (by rw [hl]; exact (Nat.min_self _).symm) (fun j v hv => by
      have hj : j < len := by
        have := (List.getElem?_eq_some_iff.1 hv).1
        omega
      obtain ⟨⟨b, off, e, hc⟩, _⟩ := hr j hj
      cases e
      rw [strsL_get g len j hj] at hv
      cases hv
      have hadd : (⟨b, off, none⟩ : Addr).add j = ⟨b, off + j, none⟩ := by unfold Addr.add; split <;> simp_all
      rw [hadd, World.cell?_alloc_lt _ _ _ (World.block_lt_of_cell? _ _ hc)]
      exact hc) (by rw [hl, size_madeCells]; omega) (strsL_one g len)
  rw [h, hl, setRow_alloc]
  have hd : (madeCells #[.string ByteArray.empty] len).toList.drop (0 + len) = [] := by
    apply List.drop_eq_nil_of_le
    simp [size_madeCells]
  rw [hd]
  simp

theorem rowS_new (w : World) (n : Nat) (g : Nat → ByteArray) (hs : ∀ i, i < n → (g i).size ≤ maxLen) : RowS (w.alloc (.cells (strsL g n).toArray 9)) (some ⟨w.heap.size, 0, none⟩) n g := by
  intro i hi
  exact ⟨⟨w.heap.size, 0, rfl, by rw [World.cell?_alloc_new]; simpa using strsL_get g n i hi⟩, hs i hi⟩

theorem below1 (w : World) (o : Obj) : Below w.heap.size w (w.alloc o) := (Below.refl _ _).alloc (Nat.le_refl _) _

end Go.Proofs.Qxb6603865a
