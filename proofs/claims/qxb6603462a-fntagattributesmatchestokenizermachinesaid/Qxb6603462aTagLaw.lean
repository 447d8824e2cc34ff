import Derived.Test.Qxb6603462aTagReal
import Derived.Test.Qxb6603462aTagModel
import Derived.Test.Qxb6603462aSame
namespace Go.Proofs.Qxb6603462a.TagLaw
open Go.RowKit Go.Proofs.Qxb6603462a.Use

theorem tagGo_length (f : Nat → Int) (n : Nat) : ∀ m i, (tagGo f n m i).length ≤ m
  | 0, _ => Nat.le_refl _
  | m + 1, i => by
    rw [tagGo]
    split
    · exact Nat.zero_le _
    split
    · exact Nat.zero_le _
    split
    · exact Nat.le_succ_of_le (tagGo_length f n m _)
    · exact Nat.succ_le_succ (tagGo_length f n m _)

theorem tagT_length (f : Nat → Int) (n i : Nat) : (tagT f n i).length ≤ n := Nat.le_trans (tagGo_length f n (n - i) i) (Nat.sub_le _ _)

theorem start_same (f : Nat → Int) (n : Nat) : tagT f n (skipTo tn f n (min 2 n)) = tagT f n (skipTo tn f n 2) := by
  by_cases h : 2 ≤ n
  · rw [Nat.min_eq_left h]
  · rw [Nat.min_eq_right (by omega), skipTo_ge tn f n n (Nat.le_refl _), skipTo_ge tn f n 2 (by omega), tagT_past f n n (Nat.le_refl _), tagT_past f n 2 (by omega)]

theorem ownsRow_later {w w' : World} {base : Nat} {e : TypeId} {size : Nat} {v : Value} {n : Nat} {xs : List Value} (h : w.ownsRow base e size v n xs) (hb : Below w.heap.size w w') : w'.ownsRow base e size v n xs := by
  obtain ⟨h1, h2⟩ := h
  refine ⟨h1, ?_⟩
  rcases h2 with h2 | ⟨g, cap, cur, hv, hg, hh, r⟩
  · exact .inl h2
  · exact .inr ⟨g, cap, cur, hv, hg, by rw [hb.block g (Array.getElem?_eq_some_iff.1 hh).1]; exact hh, r⟩

set_option maxHeartbeats 400000 in
theorem bytes_no (a : Option Addr) (len cap : Nat) (w : World) (h : 1048576 < len) (h2 : len ≤ 9223372036854775807) :
    Calls Try.prog 15 #[.slice a len cap] w fun e w' => e = .returned (.bool false) ∧ w = w' := by
  go_enter Try.func15, Try.ntmps15
  go_wp2
  go_ret
  exact ⟨rfl, rfl⟩

set_option maxHeartbeats 400000 in
theorem bytes_yes (a : Option Addr) (len cap : Nat) (w : World) (h : len ≤ 1048576) :
    Calls Try.prog 15 #[.slice a len cap] w fun e w' => e = .returned (.bool true) ∧ w = w' := by
  go_enter Try.func15, Try.ntmps15
  go_wp2
  go_ret
  exact ⟨rfl, rfl⟩

set_option maxHeartbeats 400000 in
theorem long (a : Option Addr) (len cap : Nat) (w : World) (h : 1048576 < len) (h2 : len ≤ 9223372036854775807) :
    Calls Try.prog 6 #[.slice a len cap] w fun r w' => r = .returned (.bool true) ∧ Below w.heap.size w w' := by
  go_enter Try.func6, Try.ntmps6
  go_wp2_with fail
  refine (bytes_no _ _ _ _ h h2).mono ?_
  rintro _ _ ⟨rfl, rfl⟩
  go_wp2
  go_ret
  exact ⟨rfl, Below.refl _ _⟩

/-- The three calls of the last line, over whatever row. -/
theorem both (a : Option Addr) (n c : Nat) (f : Nat → Int) (w : World) (hr : Row8 w a n f) (hn : n ≤ 1048576) :
    Calls Try.prog 17 #[.slice a n c] w fun r w1 => ∃ v1, r = .returned v1 ∧ Below w.heap.size w w1 ∧ Hid (Calls Try.prog 18 #[.slice a n c] w1 fun r2 w2 => ∃ v2, r2 = .returned v2 ∧ Below w1.heap.size w1 w2 ∧ Hid (Calls Try.prog 16 #[v1, v2] w2 fun r3 w3 => r3 = .returned (.bool true) ∧ ∃ k, w3 = w2.drewN k)) := by
  refine (TagReal.tag_is a n c f w hr hn _ rfl _ rfl).mono ?_
  rintro _ w1 ⟨v1, rfl, o1, n1, b1⟩
  refine ⟨v1, rfl, b1, ?_⟩
  refine (TagModel.model_is a n c f w1 (hr.later b1) hn _ rfl _ (start_same f n)).mono ?_
  rintro _ w2 ⟨v2, rfl, o2, n2, b2⟩
  exact ⟨v2, rfl, b2, Same.same_is w2 _ _ v1 v2 _ (Nat.le_trans (tagT_length _ _ _) hn) (ownsRow_later o1 b2) n1 o2 n2⟩

theorem below_drewN' {B : Nat} {a w : World} (h : Below B a w) (k : Nat) : Below B a (w.drewN k) := ⟨h.os, h.tape, h.output, h.size, h.block⟩

set_option maxHeartbeats 1000000 in
theorem nil (w : World) : Calls Try.prog 6 #[.slice none 0 0] w fun r w' => r = .returned (.bool true) ∧ Below w.heap.size w w' := by
  have hnn := run_neq_slice_nil_any (P := Try.prog) w 22 5 none 0 0 0 0 Try.underlying22
  go_enter Try.func6, Try.ntmps6
  go_wp2_with fail
  refine (bytes_yes _ _ _ _ (by omega)).mono ?_
  rintro _ _ ⟨rfl, rfl⟩
  go_wp2_with fail
  refine (both none 0 0 (fun _ => 0) w (row8_zero _ _ _) (by omega)).mono ?_
  rintro _ w1 ⟨v1, rfl, b1, H1⟩
  clear hnn
  go_wp2_with fail
  refine H1.out.mono ?_
  rintro _ w2 ⟨v2, rfl, b2, H2⟩
  go_wp2_with fail
  refine H2.out.mono ?_
  rintro _ w3 ⟨rfl, k, rfl⟩
  go_wp2
  go_ret
  exact ⟨rfl, below_drewN' (b1.trans (b2.mono b1.size)) k⟩

set_option maxHeartbeats 1000000 in
theorem main (x : Addr) (len cap : Nat) (cs : List Value) (f : Nat → Int) (w : World) (hle : len ≤ 1048576) (hl : Hid (cs.length = len))
    (hsrc : Hid (∀ j v, cs[j]? = some v → w.cell? (x.add j) = some v)) (h1 : Hid (∀ v ∈ cs, v.oneCell' = true)) (hcs : Hid (∀ i, i < len → cs[i]? = some (.int .u8 (f i)))) :
    Calls Try.prog 6 #[.slice (some x) len cap] w fun r w' => r = .returned (.bool true) ∧ Below w.heap.size w w' := by
  have hmk := make_run len hle
  have hcp : ∀ ty, (Builtin.copy_ #[22, 22] ty #[.slice (some ⟨w.heap.size, 0, none⟩) len len, .slice (some x) len cap]).run Try.prog (w.alloc (.cells (madeCells #[.int .u8 0] len) 5)) = .ok (goInt len) (w.alloc (.cells cs.toArray 5)) := fun ty => copy_run w x len cap ty cs hl.out hsrc.out h1.out
  have hnn := run_neq_slice_nil_any (P := Try.prog) w 22 5 (some x) len cap 0 0 Try.underlying22
  go_enter Try.func6, Try.ntmps6
  go_wp2_with fail
  refine (bytes_yes _ _ _ _ hle).mono ?_
  rintro _ _ ⟨rfl, rfl⟩
  go_wp2_with fail
  refine (both (some ⟨w.heap.size, 0, none⟩) len len f (w.alloc (.cells cs.toArray 5)) (row8_new w cs len f hcs.out) hle).mono ?_
  rintro _ w1 ⟨v1, rfl, b1, H1⟩
  clear hnn hmk hcp
  have b0 : Below w.heap.size w w1 := (below1 w _).trans (b1.mono (by simp))
  clear b1
  go_wp2_with fail
  refine H1.out.mono ?_
  rintro _ w2 ⟨v2, rfl, b2, H2⟩
  go_wp2_with fail
  refine H2.out.mono ?_
  rintro _ w3 ⟨rfl, k, rfl⟩
  go_wp2
  go_ret
  exact ⟨rfl, below_drewN' (b0.trans (b2.mono b0.size)) k⟩

end Go.Proofs.Qxb6603462a.TagLaw
