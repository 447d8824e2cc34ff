import Derived.Test.Qxb6603865aMan
import Derived.Test.Qxb6603865aToBundle
import Derived.Deep.AppendLies
namespace Go.Proofs.Qxb6603865a
open Go.RowKit

theorem info39 : (Try.prog.info? 39).map (fun i => (i.zero, i.size, i.bytes)) = some (some (.agg #[.int .i64 0, .string ByteArray.empty]), 2, 24) := by kernel_rfl

/-- Go's '<' on strings. -/
def ltS (a b : ByteArray) : Bool := Op.bytesLess a.toList b.toList

/-- The cells of a list of changes. -/
def flatD (D : List (Int × ByteArray)) : List Value := D.flatMap fun d => [.int .i64 d.1, .string d.2]
theorem flatD_snoc (D : List (Int × ByteArray)) (d : Int × ByteArray) : flatD (D ++ [d]) = flatD D ++ [.int .i64 d.1, .string d.2] := by unfold flatD; rw [List.flatMap_append]; simp

/-- What Diff is given of the elder release: nothing, or a manifest. -/
def FromAt (w : World) (fp : Option Addr) (bl : Nat) (B : Nat → ByteArray) (nb : Nat) (F : Nat → FileR) : Prop :=
  (fp = none ∧ bl = 0 ∧ nb = 0) ∨
  ∃ qb qo s0 s1 s2 s3 s4 ca cc fa fc, fp = some ⟨qb, qo, none⟩ ∧ ManAt w qb qo s0 s1 s2 s3 s4 ca bl cc B fa nb fc F

/-- Diff's own memory: the result's box, the box of c, c's list. -/
structure DSt (w wr : World) (v : Value) (r : Bool) (D : List (Int × ByteArray)) : Prop where
  bel : Below w.heap.size w wr
  rbox : wr.heap[w.heap.size]? = some (.cells #[.slice none 0 0, .bool false] 32 (0, 0))
  box : wr.heap[w.heap.size + 1]? = some (.cells #[v, .bool (!r)] 32 (0, 0))
  own : wr.ownsRow (w.heap.size + 2) 39 2 v D.length (flatD D)
  nil : D = [] → v = .slice none 0 0

/-- What holds at every round's head. -/
def DRel (F G : Nat → FileR) (nb na : Nat) (total : List (Int × ByteArray)) (w : World) (r : Bool) (g : Nat) (s t : Value) (wr : World) : Prop :=
  ∃ (i p j q : Nat) (D : List (Int × ByteArray)) (v : Value) (a1 : Option Addr) (k1 : Nat) (a2 : Option Addr) (k2 : Nat), s = .slice a1 p k1 ∧ t = .slice a2 q k2 ∧ g = p + q ∧ i + p = nb ∧ j + q = na ∧ DSt w wr v r D ∧
    Hid (RowF w a1 p (fun k => F (i + k))) ∧ Hid (RowF w a2 q (fun k => G (j + k))) ∧ D.length ≤ i + j ∧ Hid (D ++ diffT ltS F G nb na i j = total) ∧ (p ≤ k1 ∧ q ≤ k2)

theorem DSt.drewN {w wr : World} {v : Value} {r : Bool} {D : List (Int × ByteArray)} (h : DSt w wr v r D) (k : Nat) : DSt w (wr.drewN k) v r D :=
  ⟨⟨h.bel.os, h.bel.tape, h.bel.output, h.bel.size, h.bel.block⟩, h.rbox, h.box, h.own, h.nil⟩

theorem DSt.lt {w wr : World} {v : Value} {r : Bool} {D : List (Int × ByteArray)} (h : DSt w wr v r D) : w.heap.size + 1 < wr.heap.size := (Array.getElem?_eq_some_iff.1 h.box).1
theorem DSt.cell {w wr : World} {v : Value} {r : Bool} {D : List (Int × ByteArray)} (h : DSt w wr v r D) : wr.cell? ⟨w.heap.size + 1, 0, none⟩ = some v ∧ wr.cell? ⟨w.heap.size + 1, 1, none⟩ = some (.bool (!r)) :=
  ⟨by rw [cell_of_row wr _ _ _ 32 (0, 0) h.box]; rfl, by rw [cell_of_row wr _ _ _ 32 (0, 0) h.box]; rfl⟩
theorem DSt.warm {w wr : World} {v : Value} {r : Bool} {D : List (Int × ByteArray)} (h : DSt w wr v r D) (o : Nat) : wr.frozen? ⟨w.heap.size + 1, o, none⟩ = false := by
  simp [World.frozen?, h.box]

/-- Behind the append and the store of the new list into c. -/
theorem DSt.appended {w W W' w1 : World} {v v' : Value} {r : Bool} {D : List (Int × ByteArray)} (h : DSt w W v r D) (d : Int × ByteArray) (hW : ∃ o, W' = W.drew.alloc o)
    (ho : w1.ownsRow (w.heap.size + 2) 39 2 v' (D.length + 1) (flatD D ++ [.int .i64 d.1, .string d.2])) (hg : W'.grownBy w1 v.ownBlock) : DSt w (w1.setCell ⟨w.heap.size + 1, 0, none⟩ v') v' r (D ++ [d]) := by
  obtain ⟨o, rfl⟩ := hW
  have hlt := h.lt
  have hrow : ∀ k, v.ownBlock = some k → w.heap.size + 2 ≤ k := fun k hk => (h.own.lt k hk).1
  have hsz : (W.drew.alloc o).heap.size = W.heap.size + 1 := by simp
  have old : ∀ k, k ≤ w.heap.size + 1 → w1.heap[k]? = W.heap[k]? := by
    intro k hk
    rw [hg.block k (by rw [hsz]; omega) (fun e => by have := hrow k e.symm; omega)]
    exact Below.heap_alloc W.drew o k (by show k < W.heap.size; omega)
  have hw1 : W.heap.size + 1 ≤ w1.heap.size := by have := hg.size; rw [hsz] at this; exact this
  refine ⟨?_, ?_, ?_, ?_, fun e => absurd e (by simp)⟩
  · have b1 : Below w.heap.size w (W.drew.alloc o) := (h.bel.drew).alloc h.bel.size o
    exact (b1.grown hg (by rw [hsz]; omega) (fun k hk => by have := hrow k hk; omega)).setCell (Nat.le_succ _) _
  · rw [Below.heap_setCell _ _ _ _ (by show w.heap.size ≠ w.heap.size + 1; omega), old _ (by omega)]
    exact h.rbox
  · rw [heap_setCell_at w1 (w.heap.size + 1) 0 #[v, .bool (!r)] 32 v' (by rw [old _ (Nat.le_refl _)]; exact h.box)]
    rfl
  · rw [flatD_snoc, List.length_append]
    exact ownsRow_setCell_below ho (Nat.lt_succ_self _) v'

theorem rowF_cut {w : World} {b off p i : Nat} {F : Nat → FileR} (h : RowF w (some ⟨b, off, none⟩) (p + 1) (fun k => F (i + k))) (q : Option Addr) (hq : 0 < p → q = some ⟨b, off + 4, none⟩) : RowF w q p (fun k => F (i + 1 + k)) := by
  intro m hm
  obtain ⟨⟨b', off', e, h0, h1, h2, h3⟩, hs⟩ := h (m + 1) (by omega)
  cases e
  dsimp only at h0 h1 h2 h3 hs
  have ei : i + (m + 1) = i + 1 + m := by omega
  rw [ei] at h0 h1 h2 h3 hs
  have eo : off + (m + 1) * 4 = off + 4 + m * 4 := by omega
  rw [eo] at h0 h1 h2 h3
  exact ⟨⟨b, off + 4, hq (by omega), h0, h1, h2, h3⟩, hs⟩

/-- The first file of a row, in a later world. -/
theorem rowF_first {w wr : World} {a : Option Addr} {p i : Nat} {F : Nat → FileR} (h : RowF w a (p + 1) (fun k => F (i + k))) (hb : Below w.heap.size w wr) :
    ∃ b off, a = some ⟨b, off, none⟩ ∧ b < w.heap.size ∧ wr.cell? ⟨b, off, none⟩ = some (.string (F i).path) ∧ wr.cell? ⟨b, off + 1, none⟩ = some (.string (F i).sha) ∧ wr.cell? ⟨b, off + 3, none⟩ = some (.int .u32 (F i).mode) := by
  obtain ⟨⟨b, off, e, h0, h1, h2, h3⟩, _⟩ := h 0 (by omega)
  refine ⟨b, off, e, World.block_lt_of_cell? _ _ h0, ?_, ?_, ?_⟩
  · simpa using cell_later hb h0
  · simpa using cell_later hb h1
  · simpa using cell_later hb h3

theorem one_pair (x : Int) (y : ByteArray) : ∀ u ∈ [Value.int .i64 x, .string y], u.oneCell' = true := by
  intro u hu
  simp at hu
  rcases hu with rfl | rfl <;> rfl

theorem bel0 (w : World) (a b : Nat) (X Y : Obj) : Below w.heap.size w (((w.alloc X).drewN (a + b)).alloc Y) := (below_drewN (below1 w X) (a + b)).alloc (by simp) Y
theorem rbox0 (w : World) (k : Nat) (X Y : Obj) : (((w.alloc X).drewN k).alloc Y).heap[w.heap.size]? = some X := by
  rw [Below.heap_alloc _ _ _ (by simp)]
  exact heap_alloc_at w X
theorem box0 (w : World) (k : Nat) (X Y : Obj) : (((w.alloc X).drewN k).alloc Y).heap[w.heap.size + 1]? = some Y := by
  have := heap_alloc_at ((w.alloc X).drewN k) Y
  have e : ((w.alloc X).drewN k).heap.size = w.heap.size + 1 := by simp
  rw [e] at this
  exact this
theorem rowF_id {w : World} {a : Option Addr} {n : Nat} {F : Nat → FileR} (h : RowF w a n F) : RowF w a n (fun k => F (0 + k)) := by
  have : (fun k => F (0 + k)) = F := by funext k; rw [Nat.zero_add]
  rw [this]
  exact h

theorem rowF_zero (w : World) (a : Option Addr) (F : Nat → FileR) : RowF w a 0 F := fun i hi => absurd hi (Nat.not_lt_zero i)

theorem fz_alloc {W : World} {o : Obj} {n i : Nat} (h : W.frozen? ⟨n, i, none⟩ = false) (hn : n < W.heap.size) : (W.alloc o).drew.frozen? ⟨n, i, none⟩ = false := by
  show (W.alloc o).frozen? _ = _
  rw [World.frozen?_alloc_past _ _ _ hn]
  exact h
theorem cl_alloc {W : World} {o : Obj} {n i : Nat} {v : Value} (h : W.cell? ⟨n, i, none⟩ = some v) (hn : n < W.heap.size) : (W.alloc o).drew.cell? ⟨n, i, none⟩ = some v := by
  show (W.alloc o).cell? _ = _
  rw [World.cell?_alloc_past _ _ _ hn]
  exact h

theorem ownsRow_low2 {w : World} {base : Nat} {e : TypeId} {size : Nat} {v : Value} {n : Nat} {xs : List Value} (h : w.ownsRow (base + 2) e size v n xs) : w.ownsRow base e size v n xs := by
  obtain ⟨h1, h2⟩ := h
  refine ⟨h1, ?_⟩
  rcases h2 with h2 | ⟨g, cap, cur, hv, hg, hh, r⟩
  · exact .inl h2
  · exact .inr ⟨g, cap, cur, hv, by omega, hh, r⟩

theorem ownsRow_form {w : World} {base : Nat} {e : TypeId} {size : Nat} {v : Value} {n : Nat} {xs : List Value} (h : w.ownsRow base e size v n xs) : ∃ a k c, v = .slice a k c := by
  rcases h.2 with ⟨hv, _⟩ | ⟨g, cap, cur, hv, _⟩
  · exact ⟨_, _, _, hv⟩
  · exact ⟨_, _, _, hv⟩

end Go.Proofs.Qxb6603865a
