import Derived.Test.Qxb6603462aTagMem
namespace Go.Proofs.Qxb6603462a
open Go.RowKit Go.Proofs.Qxb6603462a.Use

/-- The machine's memory: the box of 'cur' at block cb holds x; 'out' is v, which reads L; below cb all is as it was. -/
structure MSt (cb : Nat) (w0 wr : World) (x : At) (v : Value) (L : List At) : Prop where
  below : Below cb w0 wr
  box : wr.heap[cb]? = some (.cells #[.int .i64 x.s, .int .i64 x.n, .int .i64 x.e, .int .i64 x.v, .int .i64 x.ve, .int .i64 x.en] 25 (0, 0))
  own : wr.ownsRow (cb + 1) 25 6 v L.length (flatA L)
  nil : L = [] → v = .slice none 0 0

theorem MSt.lt {cb : Nat} {w0 wr : World} {x : At} {v : Value} {L : List At} (h : MSt cb w0 wr x v L) : cb < wr.heap.size := (Array.getElem?_eq_some_iff.1 h.box).1

theorem MSt.cells {cb : Nat} {w0 wr : World} {x : At} {v : Value} {L : List At} (h : MSt cb w0 wr x v L) :
    wr.cell? ⟨cb, 0, none⟩ = some (.int .i64 x.s) ∧ wr.cell? ⟨cb, 1, none⟩ = some (.int .i64 x.n) ∧ wr.cell? ⟨cb, 2, none⟩ = some (.int .i64 x.e) ∧
    wr.cell? ⟨cb, 3, none⟩ = some (.int .i64 x.v) ∧ wr.cell? ⟨cb, 4, none⟩ = some (.int .i64 x.ve) ∧ wr.cell? ⟨cb, 5, none⟩ = some (.int .i64 x.en) := by
  refine ⟨?_, ?_, ?_, ?_, ?_, ?_⟩ <;> (rw [cell_of_row wr cb _ _ 25 (0, 0) h.box]; rfl)

theorem MSt.warm {cb : Nat} {w0 wr : World} {x : At} {v : Value} {L : List At} (h : MSt cb w0 wr x v L) (o : Nat) : wr.frozen? ⟨cb, o, none⟩ = false := by
  simp [World.frozen?, h.box]

theorem heap_setCell_at (w : World) (b o : Nat) (cs : Array Value) (t : TypeId) (u : Value) (h : w.heap[b]? = some (.cells cs t (0, 0))) : (w.setCell ⟨b, o, none⟩ u).heap[b]? = some (.cells (cs.setIfInBounds o u) t (0, 0)) := by
  simp [World.setCell, Array.getElem?_modify, h]

theorem ownsRow_setCell_at {w : World} {base : Nat} {e : TypeId} {size : Nat} {v : Value} {n : Nat} {xs : List Value} (h : w.ownsRow (base + 1) e size v n xs) (o : Nat) (u : Value) : (w.setCell ⟨base, o, none⟩ u).ownsRow (base + 1) e size v n xs :=
  ownsRow_setCell_below h (Nat.lt_succ_self _) u

theorem MSt.s2 {cb : Nat} {w0 wr : World} {x : At} {v : Value} {L : List At} (h : MSt cb w0 wr x v L) (y : Int) : MSt cb w0 (wr.setCell ⟨cb, 2, none⟩ (.int .i64 y)) ⟨x.s, x.n, y, x.v, x.ve, x.en⟩ v L :=
  ⟨h.below.setCell (Nat.le_refl _) _, by rw [heap_setCell_at wr cb 2 _ 25 _ h.box]; rfl, ownsRow_setCell_at h.own _ _, h.nil⟩
theorem MSt.s3 {cb : Nat} {w0 wr : World} {x : At} {v : Value} {L : List At} (h : MSt cb w0 wr x v L) (y : Int) : MSt cb w0 (wr.setCell ⟨cb, 3, none⟩ (.int .i64 y)) ⟨x.s, x.n, x.e, y, x.ve, x.en⟩ v L :=
  ⟨h.below.setCell (Nat.le_refl _) _, by rw [heap_setCell_at wr cb 3 _ 25 _ h.box]; rfl, ownsRow_setCell_at h.own _ _, h.nil⟩
theorem MSt.s4 {cb : Nat} {w0 wr : World} {x : At} {v : Value} {L : List At} (h : MSt cb w0 wr x v L) (y : Int) : MSt cb w0 (wr.setCell ⟨cb, 4, none⟩ (.int .i64 y)) ⟨x.s, x.n, x.e, x.v, y, x.en⟩ v L :=
  ⟨h.below.setCell (Nat.le_refl _) _, by rw [heap_setCell_at wr cb 4 _ 25 _ h.box]; rfl, ownsRow_setCell_at h.own _ _, h.nil⟩
theorem MSt.s5 {cb : Nat} {w0 wr : World} {x : At} {v : Value} {L : List At} (h : MSt cb w0 wr x v L) (y : Int) : MSt cb w0 (wr.setCell ⟨cb, 5, none⟩ (.int .i64 y)) ⟨x.s, x.n, x.e, x.v, x.ve, y⟩ v L :=
  ⟨h.below.setCell (Nat.le_refl _) _, by rw [heap_setCell_at wr cb 5 _ 25 _ h.box]; rfl, ownsRow_setCell_at h.own _ _, h.nil⟩
theorem MSt.s0 {cb : Nat} {w0 wr : World} {x : At} {v : Value} {L : List At} (h : MSt cb w0 wr x v L) (y : Int) : MSt cb w0 (wr.setCell ⟨cb, 0, none⟩ (.int .i64 y)) ⟨y, x.n, x.e, x.v, x.ve, x.en⟩ v L :=
  ⟨h.below.setCell (Nat.le_refl _) _, by rw [heap_setCell_at wr cb 0 _ 25 _ h.box]; rfl, ownsRow_setCell_at h.own _ _, h.nil⟩
theorem MSt.s1 {cb : Nat} {w0 wr : World} {x : At} {v : Value} {L : List At} (h : MSt cb w0 wr x v L) (y : Int) : MSt cb w0 (wr.setCell ⟨cb, 1, none⟩ (.int .i64 y)) ⟨x.s, y, x.e, x.v, x.ve, x.en⟩ v L :=
  ⟨h.below.setCell (Nat.le_refl _) _, by rw [heap_setCell_at wr cb 1 _ 25 _ h.box]; rfl, ownsRow_setCell_at h.own _ _, h.nil⟩

/-- Behind the append of cur. -/
theorem MSt.appended {cb : Nat} {w0 wr w3 : World} {x : At} {v v' : Value} {L : List At} {o : Obj} (h : MSt cb w0 wr x v L) (y : At)
    (ho : w3.ownsRow (cb + 1) 25 6 v' (L.length + 1) (flatA L ++ y.vals)) (hg : (wr.alloc o).grownBy w3 v.ownBlock) : MSt cb w0 w3 x v' (L ++ [y]) := by
  have hlt := h.lt
  have hrow : ∀ k, v.ownBlock = some k → cb + 1 ≤ k := fun k hk => (h.own.lt k hk).1
  refine ⟨(h.below.alloc (by omega) o).grown hg (by simp; omega) (fun k hk => by have := hrow k hk; omega), ?_, ?_, fun e => absurd e (by simp)⟩
  · rw [hg.block cb (by simp; omega) (fun e => by have := hrow cb e.symm; omega), Below.heap_alloc _ _ _ hlt]
    exact h.box
  · rw [flatA_snoc, List.length_append]
    exact ho

theorem ownsRow_low {w : World} {base base' : Nat} {e : TypeId} {size : Nat} {v : Value} {n : Nat} {xs : List Value} (h : w.ownsRow base e size v n xs) (hb : base' ≤ base) : w.ownsRow base' e size v n xs := by
  obtain ⟨h1, h2⟩ := h
  refine ⟨h1, ?_⟩
  rcases h2 with h2 | ⟨g, cap, cur, hv, hg, hh, r⟩
  · exact .inl h2
  · exact .inr ⟨g, cap, cur, hv, by omega, hh, r⟩

theorem size_set (w : World) (a : Addr) (u : Value) : (w.setCell a u).heap.size = w.heap.size := by simp [World.setCell]
theorem size_later {W : World} {A B : Nat} (h : B = W.heap.size) (hl : A < B) (o : Obj) : A + 1 ≤ (W.alloc o).heap.size := by simp; omega
theorem cell_six_at (w : World) (B : Nat) (hB : B = w.heap.size) (a b c d e g : Value) (t : TypeId) : ∀ j u, [a, b, c, d, e, g][j]? = some u → (w.alloc (.cells #[a, b, c, d, e, g] t)).cell? ((⟨B, 0, none⟩ : Addr).add j) = some u := by
  subst hB
  exact cell_six_new w a b c d e g t

end Go.Proofs.Qxb6603462a
