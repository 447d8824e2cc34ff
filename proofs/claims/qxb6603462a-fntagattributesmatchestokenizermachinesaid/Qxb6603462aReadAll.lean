import Derived.Test.Qxb6603462aRead
import Derived.Laws.CopyOwn
namespace Go.Proofs.Qxb6603462a
open Go.RowKit

/-- readValue, whole. -/
theorem readValue_is (a : Option Addr) (n c : Nat) (f : Nat → Int) (x0 x1 v ve en : Int) (e : Nat) (N V VE EN : Int) (w : World) (hr : Row8 w a n f) (hn : n ≤ 1048576) (hrv : Hid (rv f n e v ve en = (N, V, VE, EN))) :
    Calls Try.prog 21 #[.slice a n c, .pointer (some ⟨w.heap.size, 0, none⟩)] (w.alloc (.cells #[.int .i64 x0, .int .i64 x1, .int .i64 e, .int .i64 v, .int .i64 ve, .int .i64 en] 25)) fun r w' =>
      r = .returned (.int .i64 N) ∧ w' = w.alloc (.cells #[.int .i64 x0, .int .i64 x1, .int .i64 e, .int .i64 V, .int .i64 VE, .int .i64 EN] 25) := by
  have h := hrv.out
  unfold rv at h
  by_cases h1 : n ≤ skipTo sp f n e
  · rw [if_pos h1] at h
    cases h
    exact readValue_end a n c f x0 x1 v ve en e _ w hr hn rfl h1
  rw [if_neg h1] at h
  by_cases h2 : f (skipTo sp f n e) = 47
  · rw [if_pos h2] at h
    cases h
    exact readValue_slash a n c f x0 x1 v ve en e _ w hr hn rfl (by omega) h2
  rw [if_neg h2] at h
  by_cases h3 : f (skipTo sp f n e) ≠ 61
  · rw [if_pos h3] at h
    cases h
    exact readValue_other a n c f x0 x1 v ve en e _ w hr hn rfl (by omega) (by simpa using h2) (by simpa using h3)
  rw [if_neg h3] at h
  have h3' : f (skipTo sp f n e) = 61 := Decidable.of_not_not h3
  by_cases h4 : n ≤ skipTo sp f n (skipTo sp f n e + 1)
  · rw [if_pos h4] at h
    cases h
    exact readValue_eqend a n c f x0 x1 v ve en e _ _ w hr hn rfl rfl (by omega) h3' h4
  rw [if_neg h4] at h
  by_cases h5 : f (skipTo sp f n (skipTo sp f n e + 1)) = 62
  · rw [if_pos h5] at h
    cases h
    exact readValue_eqgt a n c f x0 x1 v ve en e _ _ w hr hn rfl rfl (by omega) h3' (by omega) h5
  rw [if_neg h5] at h
  by_cases h6 : f (skipTo sp f n (skipTo sp f n e + 1)) = 34 ∨ f (skipTo sp f n (skipTo sp f n e + 1)) = 39
  · rw [if_pos h6] at h
    cases h
    refine readValue_quoted a n c f x0 x1 v ve en e _ _ _ w hr hn rfl rfl rfl (by omega) h3' (by omega) (by simpa using h5) ?_
    by_cases h7 : f (skipTo sp f n (skipTo sp f n e + 1)) = 34
    · exact .inl (by simpa using h7)
    · exact .inr ⟨by simpa using h7, by simpa using h6.resolve_left h7⟩
  · rw [if_neg h6] at h
    cases h
    exact readValue_unquoted a n c f x0 x1 v ve en e _ _ _ w hr hn rfl rfl rfl (by omega) h3' (by omega) (by simpa using h5) (by simpa using fun h => h6 (.inl h)) (by simpa using fun h => h6 (.inr h))

set_option maxHeartbeats 400000 in
/-- ZZreadValue hands on. -/
theorem zzReadValue_is (a : Option Addr) (n c : Nat) (f : Nat → Int) (x0 x1 v ve en : Int) (e : Nat) (N V VE EN : Int) (w : World) (hr : Row8 w a n f) (hn : n ≤ 1048576) (hrv : Hid (rv f n e v ve en = (N, V, VE, EN))) :
    Calls Try.prog 10 #[.slice a n c, .pointer (some ⟨w.heap.size, 0, none⟩)] (w.alloc (.cells #[.int .i64 x0, .int .i64 x1, .int .i64 e, .int .i64 v, .int .i64 ve, .int .i64 en] 25)) fun r w' =>
      r = .returned (.int .i64 N) ∧ w' = w.alloc (.cells #[.int .i64 x0, .int .i64 x1, .int .i64 e, .int .i64 V, .int .i64 VE, .int .i64 EN] 25) := by
  have HR : Hid (Row8 w a n f) := hr
  clear hr
  go_enter Try.func10, Try.ntmps10
  go_wp2_with fail
  refine (readValue_is a n c f x0 x1 v ve en e N V VE EN w HR.out hn hrv).mono ?_
  rintro _ _ ⟨rfl, rfl⟩
  go_wp2
  go_ret
  exact ⟨rfl, rfl⟩

/-! ### The copy that each law makes first -/
theorem info5 : (Try.prog.info? 5).map (·.size) = some 1 := by kernel_rfl

theorem make_run (len : Nat) (h : len ≤ 1048576) (w : World) :
    (Instr.makeSlice 22 (.int .i64 (len : Int)) (.int .i64 (len : Int))).run Try.prog w = .ok (.slice (some ⟨w.heap.size, 0, none⟩) len len) (w.alloc (.cells (madeCells #[.int .u8 0] len) 5)) := by
  obtain ⟨i, hi⟩ : ∃ i, Try.prog.info? 5 = some i := Option.isSome_iff_exists.1 (by kernel_rfl)
  have hz : i.zero = some (.int .u8 0) := by
    have : (Try.prog.info? 5).bind (·.zero) = some (.int .u8 0) := by kernel_rfl
    rw [hi] at this; exact this
  have hs : i.size = 1 := by
    have : (Try.prog.info? 5).map (·.size) = some 1 := info5
    rw [hi] at this; exact Option.some.inj this
  have hb : i.bytes = 1 := by
    have : (Try.prog.info? 5).map (·.bytes) = some 1 := by kernel_rfl
    rw [hi] at this; exact Option.some.inj this
  have := run_make (P := Try.prog) w 22 5 i (.int .u8 0) Try.underlying22 hi hz .i64 .i64 len len (by omega) (Int.le_refl _) (by rw [hb]; omega) (by omega)
  rw [hs] at this
  simpa [Value.cells] using this

theorem setRow_alloc (w : World) (c d : Array Value) (t : TypeId) : (w.alloc (.cells c t)).setRow w.heap.size d = w.alloc (.cells d t) := by
  unfold World.setRow World.alloc
  congr 1
  apply Array.ext_getElem?
  intro k
  simp only [Array.getElem?_modify, Array.getElem?_push]
  by_cases hk : k = w.heap.size
  · subst hk; simp
  · simp [hk, Ne.symm hk]

theorem heap_alloc_at (w : World) (o : Obj) : (w.alloc o).heap[w.heap.size]? = some o := by
  show (w.heap.push o)[w.heap.size]? = _
  simp

theorem copy_run (w : World) (x : Addr) (len cap : Nat) (ty : TypeId) (cs : List Value) (hl : cs.length = len) (hsrc : ∀ j v, cs[j]? = some v → w.cell? (x.add j) = some v) (h1 : ∀ v ∈ cs, v.oneCell' = true) :
    (Builtin.copy_ #[22, 22] ty #[.slice (some ⟨w.heap.size, 0, none⟩) len len, .slice (some x) len cap]).run Try.prog (w.alloc (.cells (madeCells #[.int .u8 0] len) 5)) = .ok (goInt len) (w.alloc (.cells cs.toArray 5)) := by
  have h := run_copy_row (P := Try.prog) (w.alloc (.cells (madeCells #[.int .u8 0] len) 5)) 22 22 ty 5 w.heap.size 0 len len x len cap (madeCells #[.int .u8 0] len) 5 cs Try.underlying22 info5
    (heap_alloc_at _ _) (by rw [hl]; exact (Nat.min_self _).symm) (fun j v hv => by
      have hc := hsrc j v hv
      rw [World.cell?_alloc_lt _ _ _ (World.block_lt_of_cell? _ _ hc)]
      exact hc) (by rw [hl, size_madeCells]; omega) h1
  rw [h, hl, setRow_alloc]
  have hd : (madeCells #[.int .u8 0] len).toList.drop (0 + len) = [] := by
    apply List.drop_eq_nil_of_le
    simp [size_madeCells]
  rw [hd]
  simp

/-- A row of bytes that came in, in the words of the walks. -/
theorem row_parts {w : World} {x : Addr} {len cap : Nat} {zs : List Int} (hlc : len ≤ cap) (hz : zs.length = cap) (hcell : ∀ i, i < zs.length → w.cell? (x.add i) = some (.int .u8 (zs.getD i 0))) :
    ∃ (cs : List Value) (f : Nat → Int), Hid (cs.length = len) ∧ Hid (∀ j v, cs[j]? = some v → w.cell? (x.add j) = some v) ∧ Hid (∀ v ∈ cs, v.oneCell' = true) ∧ Hid (∀ i, i < len → cs[i]? = some (.int .u8 (f i))) := by
  have key : ∀ i, i < len → ((zs.take len).map (Value.int .u8))[i]? = some (.int .u8 (zs.getD i 0)) := by
    intro i hi
    rw [List.getElem?_map, List.getElem?_take_of_lt hi, List.getElem?_eq_getElem (by omega), List.getD_eq_getElem?_getD, List.getElem?_eq_getElem (by omega)]
    rfl
  have hlen : ((zs.take len).map (Value.int .u8)).length = len := by simp; omega
  refine ⟨(zs.take len).map (Value.int .u8), fun i => zs.getD i 0, hlen, ?_, ?_, key⟩
  · intro j v hv
    have hj : j < len := by
      have := (List.getElem?_eq_some_iff.1 hv).1
      omega
    rw [key j hj] at hv
    rw [hcell j (by omega)]
    exact hv
  · intro v hv
    obtain ⟨z, _, rfl⟩ := List.mem_map.1 hv
    rfl

end Go.Proofs.Qxb6603462a
