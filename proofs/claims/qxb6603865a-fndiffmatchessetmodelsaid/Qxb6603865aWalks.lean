import Derived.Test.Qxb6603865aRows
import Derived.WalkKit
import Derived.WalkSpells
import Derived.WalkLawsBesides
import Derived.Deep.LoopGhost
import Derived.Deep.QuietTactic
import Derived.BigQuiet
namespace Go.Proofs.Qxb6603865a
open Go.RowKit

/-- A slice of strings of length n that reads as g. -/
def RowS (w : World) (a : Option Addr) (n : Nat) (g : Nat → ByteArray) : Prop :=
  ∀ i, i < n → (∃ b off, a = some ⟨b, off, none⟩ ∧ w.cell? ⟨b, off + i, none⟩ = some (.string (g i))) ∧ (g i).size ≤ maxLen

theorem RowS.drewN {w : World} {a : Option Addr} {n : Nat} {g : Nat → ByteArray} (h : RowS w a n g) (k : Nat) : RowS (w.drewN k) a n g := h

theorem RowS.later {w wr : World} {a : Option Addr} {n : Nat} {g : Nat → ByteArray} (h : RowS w a n g) (hb : Below w.heap.size w wr) : RowS wr a n g := by
  intro i hi
  obtain ⟨⟨b, off, ha, hc⟩, hs⟩ := h i hi
  exact ⟨⟨b, off, ha, cell_later hb hc⟩, hs⟩

theorem bytes_ext {s t : ByteArray} (h : s.toList = t.toList) : s = t := by
  rw [ByteArray.toList_eq, ByteArray.toList_eq] at h
  cases s; cases t
  simp only at h
  congr 1
  exact Array.toList_inj.1 h

theorem drew_ex (w : World) (a b : Nat) : ∃ k, (w.drewN a).drewN b = w.drewN k := ⟨a + b, World.drewN_drewN ..⟩

set_option maxHeartbeats 400000 in
theorem addCap_any (n k : Int) (w : World) (n0 : 0 ≤ n) (n1 : n ≤ 1048577) (k0 : 0 ≤ k) (k1 : k ≤ 9223372036854775807) :
    Calls Try.prog 25 #[.int .i64 n, .int .i64 k] w fun e w' => ∃ m : Int, e = .returned (.int .i64 m) ∧ (0 ≤ m ∧ m ≤ 1048577) ∧ w = w' := by
  by_cases h1 : 1048576 < k
  · go_enter Try.func25, Try.ntmps25
    go_wp2
    go_ret
    exact ⟨_, rfl, by decide, rfl⟩
  · by_cases h2 : 1048576 < n + k
    · go_enter Try.func25, Try.ntmps25
      go_wp2
      go_ret
      exact ⟨_, rfl, by decide, rfl⟩
    · go_enter Try.func25, Try.ntmps25
      go_wp2
      go_ret
      exact ⟨_, rfl, by omega, rfl⟩

set_option maxHeartbeats 1000000 in
theorem argvSize_any (n : Int) (a : Option Addr) (len cap : Nat) (g : Nat → ByteArray) (w : World) (hr : RowS w a len g) (n0 : 0 ≤ n) (n1 : n ≤ 1048577) (hl : len ≤ 1048576) :
    Calls Try.prog 22 #[.int .i64 n, .slice a len cap] w fun e w' => ∃ m : Int, e = .returned (.int .i64 m) ∧ (0 ≤ m ∧ m ≤ 1048577) ∧ w = w' := by
  have HR : Hid (RowS w a len g) := hr
  clear hr
  go_enter Try.func22, Try.ntmps22
  go_wp2_with fail
  refine (addCap_any _ _ _ n0 n1 (by omega) (by omega)).mono ?_
  rintro _ _ ⟨m0, rfl, hm0, rfl⟩
  go_wp2
  go_loop [0, 5] (fun s t => ∃ (m : Int) (i : Nat), s = .int .i64 m ∧ t = .int .i64 i ∧ 0 ≤ m ∧ m ≤ 1048577 ∧ i ≤ len) (fun _ t => len - (intOf t).toNat)
  case atStart => exact ⟨m0, 0, rfl, rfl, hm0.1, hm0.2, Nat.zero_le _⟩
  case round =>
    obtain ⟨m, i, rfl, rfl, h0, h1, hi⟩ := hrel
    by_cases hlt : i < len
    · obtain ⟨⟨b, off, rfl, hc⟩, hs⟩ := HR.out i hlt
      unfold maxLen at hs
      by_cases hm : 1048576 < m
      · go_wp2
        go_ret
        exact ⟨_, rfl, by omega, rfl⟩
      · go_wp2_with fail
        refine (addCap_any _ _ _ h0 h1 (by omega) (by omega)).mono ?_
        rintro _ _ ⟨m1, rfl, hm1, rfl⟩
        go_wp2
        go_round
        case rel => exact ⟨m1, i + 1, rfl, by go_num, hm1.1, hm1.2, by omega⟩
        case measure => simp [intOf]; omega
    · go_wp2
      go_ret
      exact ⟨_, rfl, by omega, rfl⟩

/-- The two lists of strings are the same. -/
def EqS (n m : Nat) (g h : Nat → ByteArray) : Prop := n = m ∧ ∀ i, i < n → g i = h i

theorem same_yes {n : Nat} {g h : Nat → ByteArray} (e : ∀ i, i < n → g i = h i) : Hid (true = true ↔ EqS n n g h) := ⟨fun _ => ⟨rfl, e⟩, fun _ => rfl⟩
theorem same_no {n m : Nat} {g h : Nat → ByteArray} (e : ¬ EqS n m g h) : Hid (false = true ↔ EqS n m g h) := ⟨fun h => (by cases h), fun h => absurd h e⟩

set_option maxHeartbeats 1000000 in
theorem sameArgv_any (a b : Option Addr) (n c m d : Nat) (g h : Nat → ByteArray) (w : World) (ha : RowS w a n g) (hb : RowS w b m h) (hn : n ≤ 1048576) (hm : m ≤ 1048576) :
    Calls Try.prog 26 #[.slice a n c, .slice b m d] w fun e w' => ∃ r : Bool, e = .returned (.bool r) ∧ Hid (r = true ↔ EqS n m g h) ∧ ∃ k, w' = w.drewN k := by
  have HA : Hid (RowS w a n g) := ha
  have HB : Hid (RowS w b m h) := hb
  clear ha hb
  by_cases hnm : n = m
  · subst hnm
    go_enter Try.func26, Try.ntmps26
    go_wp2
    go_loopg [13] n (fun g' t wr => ∃ i nq : Nat, t = .int .i64 i ∧ g' = n - i ∧ i ≤ n ∧ wr = w.drewN nq ∧ Hid (∀ j, j < i → g j = h j))
    case atStart => exact ⟨0, 0, rfl, rfl, by omega, rfl, fun j hj => absurd hj (Nat.not_lt_zero j)⟩
    case round =>
      obtain ⟨i, nq, rfl, hg, hi, rfl, HE⟩ := hrel
      have HG : Hid (gk = n - i) := hg
      clear hg
      by_cases hlt : i < n
      · obtain ⟨⟨b1, o1, rfl, hc1⟩, hs1⟩ := HA.out i hlt
        obtain ⟨⟨b2, o2, rfl, hc2⟩, hs2⟩ := HB.out i hlt
        go_wp2
        go_quiet (fail)
        go_wp2
        · have ht : (!(g i).toList == (h i).toList) = true := by assumption
          have he : ¬ g i = h i := by
            intro e
            rw [e] at ht
            simp at ht
          go_ret
          exact ⟨false, rfl, same_no (fun hf => he (hf.2 i hlt)), drew_ex _ _ _⟩
        · have ht : (!(g i).toList == (h i).toList) = false := by assumption
          have he : g i = h i := bytes_ext (by simpa using ht)
          have HE' : Hid (∀ j, j < i + 1 → g j = h j) := by
            intro j hj
            by_cases hji : j = i
            · rw [hji]; exact he
            · exact HE.out j (by omega)
          go_roundg (n - (i + 1))
          case rel => exact ⟨i + 1, _, by go_num, rfl, by omega, rfl, HE'⟩
          case measure => rw [HG.out]; omega
      · go_wp2
        go_ret
        exact ⟨true, rfl, same_yes (fun j hj => HE.out j (by omega)), nq, rfl⟩
  · have hne : ((n : Int) != (m : Int)) = true := by simp; omega
    go_enter Try.func26, Try.ntmps26
    go_wp2
    go_ret
    exact ⟨false, rfl, same_no (fun hf => hnm hf.1), 0, rfl⟩

set_option maxHeartbeats 400000 in
theorem zzSameArgv_any (a b : Option Addr) (n c m d : Nat) (g h : Nat → ByteArray) (w : World) (ha : RowS w a n g) (hb : RowS w b m h) (hn : n ≤ 1048576) (hm : m ≤ 1048576) :
    Calls Try.prog 23 #[.slice a n c, .slice b m d] w fun e w' => ∃ r : Bool, e = .returned (.bool r) ∧ Hid (r = true ↔ EqS n m g h) ∧ ∃ k, w' = w.drewN k := by
  have HA : Hid (RowS w a n g) := ha
  have HB : Hid (RowS w b m h) := hb
  clear ha hb
  go_enter Try.func23, Try.ntmps23
  go_wp2_with fail
  refine (sameArgv_any a b n c m d g h w HA.out HB.out hn hm).mono ?_
  rintro _ _ ⟨r, rfl, hr, k, rfl⟩
  go_wp2
  go_ret
  exact ⟨r, rfl, hr, k, rfl⟩

end Go.Proofs.Qxb6603865a
