import Derived.Test.Qxb6603865aDiffMem
import Derived.Test.Qxb6603865aPlainSet
namespace Go.Proofs.Qxb6603865a
open Go.RowKit

theorem less_irr : ∀ x : List UInt8, Op.bytesLess x x = false
  | [] => rfl
  | a :: x => by
    rw [Op.bytesLess, less_irr x]
    simp
theorem less_tr : ∀ x y z : List UInt8, Op.bytesLess x y = true → Op.bytesLess y z = true → Op.bytesLess x z = true
  | _, [], [], _, h => by simp [Op.bytesLess] at h
  | [], [], _ :: _, h, _ => by simp [Op.bytesLess] at h
  | _ :: _, [], _, h, _ => by simp [Op.bytesLess] at h
  | [], _ :: _, [], _, h => by simp [Op.bytesLess] at h
  | [], _ :: _, _ :: _, _, _ => by simp [Op.bytesLess]
  | _ :: _, _ :: _, [], _, h => by simp [Op.bytesLess] at h
  | a :: x, b :: y, c :: z, h1, h2 => by
    simp only [Op.bytesLess, Bool.or_eq_true, decide_eq_true_eq, Bool.and_eq_true, beq_iff_eq] at h1 h2 ⊢
    rcases h1 with h1 | ⟨rfl, h1⟩
    · rcases h2 with h2 | ⟨rfl, h2⟩
      · exact .inl (UInt8.lt_trans h1 h2)
      · exact .inl h1
    · rcases h2 with h2 | ⟨rfl, h2⟩
      · exact .inl h2
      · exact .inr ⟨rfl, less_tr x y z h1 h2⟩
theorem less_tri : ∀ x y : List UInt8, Op.bytesLess x y = false → Op.bytesLess y x = false → x = y
  | [], [], _, _ => rfl
  | [], _ :: _, h, _ => by simp [Op.bytesLess] at h
  | _ :: _, [], _, h => by simp [Op.bytesLess] at h
  | a :: x, b :: y, h1, h2 => by
    simp only [Op.bytesLess, Bool.or_eq_false_iff, decide_eq_false_iff_not, Bool.and_eq_false_iff] at h1 h2
    have hab : a = b := by
      have p := h1.1
      have q := h2.1
      exact UInt8.le_antisymm (UInt8.not_lt.1 q) (UInt8.not_lt.1 p)
    subst hab
    simp at h1 h2
    rw [less_tri x y h1 h2]

theorem ordS : Ord ltS := ⟨fun _ => less_irr _, fun _ _ _ => less_tr _ _ _, fun _ _ h1 h2 => bytes_ext (less_tri _ _ h1 h2)⟩

set_option maxHeartbeats 2000000 in
theorem strictlySorted_any (a : Option Addr) (n c : Nat) (F : Nat → FileR) (w : World) (h : RowF w a n F) (hn : n ≤ 1048576) :
    Calls Try.prog 10 #[.slice a n c] w fun e w' => ∃ r, e = .returned (.bool r) ∧ Hid (r = true → SortF ltS n F) ∧ ∃ q, w.drewN q = w' := by
  have HF : Hid (RowF w a n F) := h
  clear h
  go_enter Try.func10, Try.ntmps10
  go_wp2
  go_loopg [3] n (fun g t wr => ∃ m q : Nat, t = .int .i64 (m + 1 : Nat) ∧ g = n - m ∧ m ≤ n ∧ wr = w.drewN q ∧ Hid (∀ k, k < m → k + 1 < n → ltS (F k).path (F (k + 1)).path = true))
  case atStart => exact ⟨0, 0, rfl, rfl, Nat.zero_le _, rfl, fun k hk => absurd hk (Nat.not_lt_zero k)⟩
  case round =>
    obtain ⟨m, q, rfl, hg, hm, rfl, HS⟩ := hrel
    have HG : Hid (gk = n - m) := hg
    clear hg
    by_cases hlt : m + 1 < n
    · obtain ⟨⟨b, off, rfl, f0, f1, f2, f3⟩, _⟩ := HF.out m (by omega)
      obtain ⟨⟨b', off', e, g0, g1, g2, g3⟩, _⟩ := HF.out (m + 1) hlt
      cases e
      clear f1 f2 f3 g1 g2 g3
      cases hl : Op.bytesLess (F m).path.toList (F (m + 1)).path.toList with
      | true =>
        go_wp2_with fail
        go_quiet (fail)
        go_wp2
        go_roundg (n - (m + 1))
        case rel => exact ⟨m + 1, _, by go_num, rfl, by omega, rfl, fun k h1 h2 => by rcases Nat.eq_or_lt_of_le (Nat.le_of_lt_succ h1) with e | e; subst e; exact hl; exact HS.out k e h2⟩
        case measure => rw [HG.out]; omega
      | false =>
        go_wp2_with fail
        go_quiet (fail)
        go_wp2
        go_ret
        exact ⟨false, rfl, fun h => Bool.noConfusion h, _, (World.drewN_drewN _ _ _).symm⟩
    · go_wp2
      go_ret
      exact ⟨true, rfl, fun _ i hi => HS.out i (by omega) hi, _, rfl⟩

/-- Where the binary search stands. -/
def Mid (F : Nat → FileR) (n : Nat) (p : ByteArray) (lo hi : Nat) : Prop := (∀ k, k < lo → ltS (F k).path p = true) ∧ (∀ k, hi ≤ k → k < n → ltS (F k).path p = false)

theorem Mid.up {F : Nat → FileR} {n : Nat} {p : ByteArray} {lo hi m : Nat} (h : Mid F n p lo hi) (hs : SortF ltS n F) (hm : m < n) (hl : ltS (F m).path p = true) : Mid F n p (m + 1) hi := by
  refine ⟨fun k hk => ?_, h.2⟩
  rcases Nat.eq_or_lt_of_le (Nat.le_of_lt_succ hk) with e | e
  · subst e; exact hl
  · exact ordS.tr _ _ _ (hs.all ordS k m e hm) hl
theorem Mid.down {F : Nat → FileR} {n : Nat} {p : ByteArray} {lo hi m : Nat} (h : Mid F n p lo hi) (hs : SortF ltS n F) (hl : ltS (F m).path p = false) : Mid F n p lo m := by
  refine ⟨h.1, fun k hk hn => ?_⟩
  rcases Nat.eq_or_lt_of_le hk with e | e
  · subst e; exact hl
  · cases h2 : ltS (F k).path p with
    | false => rfl
    | true =>
      rw [ordS.tr _ _ _ (hs.all ordS m k e hn) h2] at hl
      exact Bool.noConfusion hl

set_option maxHeartbeats 2000000 in
theorem findPath_any (a : Option Addr) (n c : Nat) (F : Nat → FileR) (p : ByteArray) (w : World) (h : RowF w a n F) (hn : n ≤ 1048576) (hs : SortF ltS n F) :
    Calls Try.prog 29 #[.slice a n c, .string p] w fun e w' => ∃ (lo : Nat) (ok : Bool), e = .returned (.tuple #[.int .i64 lo, .bool ok]) ∧ lo ≤ n ∧ Hid (Found n F p lo ok) ∧ w = w' := by
  have HF : Hid (RowF w a n F) := h
  have HS : Hid (SortF ltS n F) := hs
  clear h hs
  go_enter Try.func29, Try.ntmps29
  go_wp2
  go_loopg [6, 7] n (fun g s t wr => ∃ lo hi : Nat, s = .int .i64 lo ∧ t = .int .i64 hi ∧ lo ≤ hi ∧ hi ≤ n ∧ g = hi - lo ∧ wr = w ∧ Hid (Mid F n p lo hi))
  case atStart => exact ⟨0, n, rfl, rfl, Nat.zero_le _, Nat.le_refl _, rfl, rfl, ⟨fun k hk => absurd hk (Nat.not_lt_zero k), fun k h1 h2 => by omega⟩⟩
  case round =>
    obtain ⟨lo, hi, rfl, rfl, hlh, hin, hg, rfl, HM⟩ := hrel
    have HG : Hid (gk = hi - lo) := hg
    clear hg
    by_cases hlt : lo < hi
    · obtain ⟨m, hm⟩ : ∃ m, m = lo + (hi - lo) / 2 := ⟨_, rfl⟩
      have hmi : (lo : Int) + ((hi : Int) - lo) / 2 = (m : Int) := by omega
      have hmt : Int.tdiv ((hi : Int) - lo) 2 = ((hi : Int) - lo) / 2 := Int.tdiv_eq_ediv_of_nonneg (by omega)
      obtain ⟨⟨b, off, rfl, f0, f1, f2, f3⟩, _⟩ := HF.out m (by omega)
      clear f1 f2 f3 hmi
      subst hm
      cases hl : Op.bytesLess (F (lo + (hi - lo) / 2)).path.toList p.toList with
      | true =>
        go_wp2
        go_roundg (hi - (lo + (hi - lo) / 2 + 1))
        case rel => exact ⟨lo + (hi - lo) / 2 + 1, hi, congrArg (Value.int .i64) (by omega), rfl, by omega, hin, rfl, rfl, HM.out.up HS.out (by omega) hl⟩
        case measure => rw [HG.out]; omega
      | false =>
        go_wp2
        go_roundg (lo + (hi - lo) / 2 - lo)
        case rel => exact ⟨lo, lo + (hi - lo) / 2, rfl, congrArg (Value.int .i64) (by omega), by omega, by omega, rfl, rfl, HM.out.down HS.out hl⟩
        case measure => rw [HG.out]; omega
    · have e : hi = lo := by omega
      subst e
      by_cases hl : hi < n
      · obtain ⟨⟨b, off, rfl, f0, f1, f2, f3⟩, _⟩ := HF.out hi hl
        clear f1 f2 f3
        cases he : (F hi).path.toList == p.toList with
        | true =>
          go_wp2
          go_ret2
          exact ⟨hi, true, rfl, hin, ⟨fun _ => ⟨hl, bytes_ext (by simpa using he)⟩, fun h => Bool.noConfusion h⟩, rfl⟩
        | false =>
          go_wp2
          go_ret2
          exact ⟨hi, false, rfl, hin, ⟨fun h => Bool.noConfusion h, fun _ => found_no ordS HS.out p hi HM.out.1 HM.out.2 (fun _ e2 => by rw [e2] at he; simp at he)⟩, rfl⟩
      · go_wp2
        go_ret2
        exact ⟨hi, false, rfl, hin, ⟨fun h => Bool.noConfusion h, fun _ => found_no ordS HS.out p hi HM.out.1 HM.out.2 (fun h => absurd h hl)⟩, rfl⟩

end Go.Proofs.Qxb6603865a
