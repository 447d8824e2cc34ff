import Derived.Test.Qxb6603865aEnc
namespace Go.Proofs.Qxb6603865a
open Go.RowKit

/-- A slice of bytes of length n that reads as f. -/
def RowI (w : World) (a : Option Addr) (n : Nat) (f : Nat → Int) : Prop :=
  ∀ i, i < n → ∃ b off, a = some ⟨b, off, none⟩ ∧ w.cell? ⟨b, off + i, none⟩ = some (.int .u8 (f i))

def EqI (n m : Nat) (f h : Nat → Int) : Prop := n = m ∧ ∀ i, i < n → f i = h i
theorem eqI_yes {n : Nat} {g h : Nat → Int} (e : ∀ i, i < n → g i = h i) : Hid (true = true ↔ EqI n n g h) := ⟨fun _ => ⟨rfl, e⟩, fun _ => rfl⟩
theorem eqI_no {n m : Nat} {g h : Nat → Int} (e : ¬ EqI n m g h) : Hid (false = true ↔ EqI n m g h) := ⟨fun h => (by cases h), fun h => absurd h e⟩

set_option maxHeartbeats 1000000 in
theorem bytesEqual_any (a b : Option Addr) (n c m d : Nat) (g h : Nat → Int) (w : World) (ha : RowI w a n g) (hb : RowI w b m h) (hn : n ≤ 2000000000000) (hm : m ≤ 2000000000000) :
    Calls Try.prog 27 #[.slice a n c, .slice b m d] w fun e w' => ∃ r : Bool, e = .returned (.bool r) ∧ Hid (r = true ↔ EqI n m g h) ∧ ∃ k, w' = w.drewN k := by
  have HA : Hid (RowI w a n g) := ha
  have HB : Hid (RowI w b m h) := hb
  clear ha hb
  by_cases hnm : n = m
  · subst hnm
    go_enter Try.func27, Try.ntmps27
    go_wp2
    go_loopg [5] n (fun g' t wr => ∃ i nq : Nat, t = .int .i64 i ∧ g' = n - i ∧ i ≤ n ∧ wr = w.drewN nq ∧ Hid (∀ j, j < i → g j = h j))
    case atStart => exact ⟨0, 0, rfl, rfl, by omega, rfl, fun j hj => absurd hj (Nat.not_lt_zero j)⟩
    case round =>
      obtain ⟨i, nq, rfl, hg, hi, rfl, HE⟩ := hrel
      have HG : Hid (gk = n - i) := hg
      clear hg
      by_cases hlt : i < n
      · obtain ⟨b1, o1, rfl, hc1⟩ := HA.out i hlt
        obtain ⟨b2, o2, rfl, hc2⟩ := HB.out i hlt
        go_wp2
        go_quiet (fail)
        go_wp2
        · have ht : (g i != h i) = true := by assumption
          have he : ¬ g i = h i := by simpa using ht
          go_ret
          exact ⟨false, rfl, eqI_no (fun hf => he (hf.2 i hlt)), drew_ex _ _ _⟩
        · have ht : (g i != h i) = false := by assumption
          have he : g i = h i := by simpa using ht
          have HE' : Hid (∀ j, j < i + 1 → g j = h j) := by
            intro j hj
            by_cases hji : j = i
            · rw [hji]; exact he
            · exact HE.out j (by omega)
          clear he
          go_roundg (n - (i + 1))
          case rel => exact ⟨i + 1, _, by go_num, rfl, by omega, rfl, HE'⟩
          case measure => rw [HG.out]; omega
      · go_wp2
        go_ret
        exact ⟨true, rfl, eqI_yes (fun j hj => HE.out j (by omega)), nq, rfl⟩
  · have hne : ((n : Int) != (m : Int)) = true := by simp; omega
    go_enter Try.func27, Try.ntmps27
    go_wp2
    go_ret
    exact ⟨false, rfl, eqI_no (fun hf => hnm hf.1), 0, rfl⟩

theorem ownsRow_later {w w' : World} {base : Nat} {e : TypeId} {size : Nat} {v : Value} {n : Nat} {xs : List Value} (h : w.ownsRow base e size v n xs) (hb : Below w.heap.size w w') : w'.ownsRow base e size v n xs := by
  obtain ⟨h1, h2⟩ := h
  refine ⟨h1, ?_⟩
  rcases h2 with h2 | ⟨g, cap, cur, hv, hg, hh, r⟩
  · exact .inl h2
  · exact .inr ⟨g, cap, cur, hv, hg, by rw [hb.block g (Array.getElem?_eq_some_iff.1 hh).1]; exact hh, r⟩

/-- A row of bytes of the call's own, in the words of the walks. -/
theorem owned_rowI {w : World} {base : Nat} {v : Value} {L : List Int} (h : w.ownsRow base 5 1 v L.length (cellsB L)) :
    ∃ a c, v = .slice a L.length c ∧ RowI w a L.length (fun i => L.getD i 0) := by
  rcases h.2 with ⟨hv, h0⟩ | ⟨g, cap, cur, hv, _⟩
  · refine ⟨none, 0, by rw [hv, h0], fun i hi => ?_⟩
    rw [h0] at hi
    exact absurd hi (Nat.not_lt_zero i)
  · refine ⟨some ⟨g, 0, none⟩, cap, hv, fun i hi => ⟨g, 0, rfl, ?_⟩⟩
    have hob : v.ownBlock = some g := by rw [hv]; rfl
    have := h.cells hob i (.int .u8 (L.getD i 0)) (by
      unfold cellsB
      rw [List.getElem?_map, List.getD_eq_getElem?_getD, List.getElem?_eq_getElem hi]
      rfl)
    have hadd : (⟨g, 0, none⟩ : Addr).add i = ⟨g, 0 + i, none⟩ := by unfold Addr.add; split <;> simp_all
    rw [hadd] at this
    exact this

theorem eqI_lists (L M : List Int) : EqI L.length M.length (fun i => L.getD i 0) (fun i => M.getD i 0) ↔ L = M := by
  constructor
  · rintro ⟨h1, h2⟩
    apply List.ext_getElem h1
    intro i hi hj
    have := h2 i hi
    simp only [List.getD_eq_getElem?_getD, List.getElem?_eq_getElem hi, List.getElem?_eq_getElem hj, Option.getD_some] at this
    exact this
  · rintro rfl
    exact ⟨rfl, fun _ _ => rfl⟩

theorem eqS_lists (n m : Nat) (g h : Nat → ByteArray) : EqS n m g h ↔ ssOf g n = ssOf h m := by
  unfold ssOf
  constructor
  · rintro ⟨rfl, e⟩
    apply List.map_congr_left
    intro i hi
    exact e i (by simpa using hi)
  · intro e
    have hl : n = m := by simpa using congrArg List.length e
    subst hl
    refine ⟨rfl, fun i hi => ?_⟩
    have := congrArg (fun l => l[i]?) e
    simpa [hi] using this

theorem encL_length_le (g : Nat → ByteArray) : ∀ n, (∀ i, i < n → (g i).size ≤ 1048576) → (encL (ssOf g n)).length ≤ n * 1048584
  | 0, _ => Nat.zero_le _
  | n + 1, h => by
    rw [ssOf_succ, encL_snoc, List.length_append, blk_length]
    have := encL_length_le g n (fun i hi => h i (by omega))
    have := h n (by omega)
    omega

set_option maxHeartbeats 1000000 in
/-- argvSame answers true exactly where the two lists are the same. -/
theorem argvSame_any (a b : Option Addr) (n c m d : Nat) (g h : Nat → ByteArray) (w : World) (ha : RowS w a n g) (hb : RowS w b m h) (hn : n ≤ 1048576) (hm : m ≤ 1048576)
    (sa : ∀ i, i < n → (g i).size ≤ 1048576) (sb : ∀ i, i < m → (h i).size ≤ 1048576) :
    Calls Try.prog 13 #[.slice a n c, .slice b m d] w fun e w' => ∃ r : Bool, e = .returned (.bool r) ∧ Hid (r = true ↔ EqS n m g h) ∧ Below w.heap.size w w' := by
  have HA : Hid (RowS w a n g) := ha
  have HB : Hid (RowS w b m h) := hb
  have SA : Hid (∀ i, i < n → (g i).size ≤ 1048576) := sa
  have SB : Hid (∀ i, i < m → (h i).size ≤ 1048576) := sb
  have l1 := encL_length_le g n sa
  have l2 := encL_length_le h m sb
  have m1 : n * 1048584 ≤ 1048576 * 1048584 := Nat.mul_le_mul_right _ hn
  have m2 : m * 1048584 ≤ 1048576 * 1048584 := Nat.mul_le_mul_right _ hm
  have L1 : Hid ((encL (ssOf g n)).length ≤ 2000000000000) := by show _ ≤ _; omega
  have L2 : Hid ((encL (ssOf h m)).length ≤ 2000000000000) := by show _ ≤ _; omega
  clear ha hb sa sb l1 l2 m1 m2
  go_enter Try.func13, Try.ntmps13
  go_wp2_with fail
  refine (enc_is a n c g w HA.out hn SA.out).mono ?_
  rintro _ w1 ⟨v1, rfl, o1, b1⟩
  have O1 : Hid (w1.ownsRow w.heap.size 5 1 v1 (encL (ssOf g n)).length (cellsB (encL (ssOf g n)))) := o1
  clear o1
  go_wp2_with fail
  refine (enc_is b m d h w1 (HB.out.later b1) hm SB.out).mono ?_
  rintro _ w2 ⟨v2, rfl, o2, b2⟩
  obtain ⟨a1, c1, hv1, r1⟩ := owned_rowI (ownsRow_later O1.out b2)
  obtain ⟨a2, c2, hv2, r2⟩ := owned_rowI o2
  have R1 : Hid (RowI w2 a1 (encL (ssOf g n)).length (fun i => (encL (ssOf g n)).getD i 0)) := r1
  have R2 : Hid (RowI w2 a2 (encL (ssOf h m)).length (fun i => (encL (ssOf h m)).getD i 0)) := r2
  clear r1 r2 o2 O1
  rw [hv1, hv2]
  clear hv1 hv2
  go_wp2_with fail
  refine (bytesEqual_any a1 a2 _ c1 _ c2 _ _ w2 R1.out R2.out L1.out L2.out).mono ?_
  rintro _ w3 ⟨r, rfl, hr, k, rfl⟩
  go_wp2
  go_ret
  refine ⟨r, rfl, ?_, below_drewN (b1.trans (b2.mono b1.size)) k⟩
  show r = true ↔ EqS n m g h
  rw [hr.out, eqI_lists, eqS_lists]
  constructor
  · intro e
    refine encL_inj _ _ ?_ ?_ e
    · intro s hs
      obtain ⟨i, hi, rfl⟩ := List.mem_map.1 hs
      exact SA.out i (by simpa using hi)
    · intro s hs
      obtain ⟨i, hi, rfl⟩ := List.mem_map.1 hs
      exact SB.out i (by simpa using hi)
  · intro e
    rw [e]

end Go.Proofs.Qxb6603865a
