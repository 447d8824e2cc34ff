import Derived.Test.Qxb6603865aBytesM
import Derived.Test.Qxb6603865aDiffNil
import Derived.Test.Qxb6603865aCounts
namespace Go.Proofs.Qxb6603865a
open Go.RowKit

/-- Against nothing, every file is added. -/
theorem diffT_adds (lt : ByteArray → ByteArray → Bool) (F G : Nat → FileR) (na : Nat) : ∀ d j, j + d = na → (diffT lt F G 0 na 0 j).length = d ∧ ∀ k, k < d → (diffT lt F G 0 na 0 j)[k]? = some (1, (G (j + k)).path)
  | 0, j, h => by
    rw [diffT_done lt F G 0 na 0 j (Nat.zero_le _) (by omega)]
    exact ⟨rfl, fun k hk => absurd hk (Nat.not_lt_zero k)⟩
  | d + 1, j, h => by
    have ih := diffT_adds lt F G na d (j + 1) (by omega)
    rw [diffT_added lt F G 0 na 0 j (by omega) (.inl (Nat.zero_le _)) (.inl (Nat.zero_le _))]
    refine ⟨by rw [List.length_cons, ih.1], fun k hk => ?_⟩
    cases k with
    | zero => rfl
    | succ k =>
      rw [List.getElem?_cons_succ, ih.2 k (by omega), show j + 1 + k = j + (k + 1) by omega]

theorem flatD_get : ∀ (D : List (Int × ByteArray)) (k : Nat) (d : Int × ByteArray), D[k]? = some d → (flatD D)[k * 2]? = some (.int .i64 d.1) ∧ (flatD D)[k * 2 + 1]? = some (.string d.2)
  | [], k, d, h => by simp at h
  | x :: D, 0, d, h => by
    simp at h
    subst h
    exact ⟨rfl, rfl⟩
  | x :: D, k + 1, d, h => by
    have ih := flatD_get D k d (by simpa using h)
    have e : flatD (x :: D) = .int .i64 x.1 :: .string x.2 :: flatD D := rfl
    rw [e]
    have e1 : (k + 1) * 2 = k * 2 + 1 + 1 := by omega
    rw [e1]
    exact ih

theorem owned_rowA {w : World} {base : Nat} {v : Value} {D : List (Int × ByteArray)} {P : Nat → ByteArray} (h : w.ownsRow base 39 2 v D.length (flatD D)) (hD : ∀ k, k < D.length → D[k]? = some (1, P k)) :
    ∃ a c, v = .slice a D.length c ∧ RowA w a D.length P := by
  rcases h.2 with ⟨hv, h0⟩ | ⟨g, cap, cur, hv, _⟩
  · refine ⟨none, 0, by rw [hv, h0], fun i hi => ?_⟩
    rw [h0] at hi
    exact absurd hi (Nat.not_lt_zero i)
  · refine ⟨some ⟨g, 0, none⟩, cap, hv, fun i hi => ⟨g, 0, rfl, ?_, ?_⟩⟩
    all_goals
      have hob : v.ownBlock = some g := by rw [hv]; rfl
      have hf := flatD_get D i _ (hD i hi)
    · have := h.cells hob (i * 2) _ hf.1
      have hadd : (⟨g, 0, none⟩ : Addr).add (i * 2) = ⟨g, 0 + i * 2, none⟩ := by unfold Addr.add; split <;> simp_all
      rw [hadd] at this
      exact this
    · have := h.cells hob (i * 2 + 1) _ hf.2
      have hadd : (⟨g, 0, none⟩ : Addr).add (i * 2 + 1) = ⟨g, 0 + i * 2 + 1, none⟩ := by unfold Addr.add; split <;> simp_all
      rw [hadd] at this
      exact this

set_option maxRecDepth 8000 in
set_option maxHeartbeats 4000000 in
theorem first_is (s0 s1 s2 s3 s4 : ByteArray) (ca : Option Addr) (cl cc : Nat) (C : Nat → ByteArray) (fa : Option Addr) (fl fc : Nat) (G : Nat → FileR) (w : World)
    (z : s0.size ≤ maxLen ∧ s1.size ≤ maxLen ∧ s2.size ≤ maxLen ∧ s3.size ≤ maxLen ∧ s4.size ≤ maxLen) (hC : RowS w ca cl C) (hF : RowF w fa fl G) (kc : cl ≤ maxLen) (kf : fl ≤ maxLen) (kk : fl ≤ fc) :
    Calls Try.prog 4 #[.agg #[.string s0, .string s1, .string s2, .string s3, .string s4, .slice ca cl cc, .slice fa fl fc]] w fun e w' => e = .returned (.bool true) ∧ Below w.heap.size w w' := by
  have b1 := below1 w (.cells #[.string s0, .string s1, .string s2, .string s3, .string s4, .slice ca cl cc, .slice fa fl fc] 28)
  have HM : Hid (ManAt (w.alloc (.cells #[.string s0, .string s1, .string s2, .string s3, .string s4, .slice ca cl cc, .slice fa fl fc] 28)) w.heap.size 0 s0 s1 s2 s3 s4 ca cl cc C fa fl fc G) :=
    ⟨by rw [World.cell?_alloc_new]; rfl, by rw [World.cell?_alloc_new]; rfl, by rw [World.cell?_alloc_new]; rfl, by rw [World.cell?_alloc_new]; rfl, by rw [World.cell?_alloc_new]; rfl, by rw [World.cell?_alloc_new]; rfl, by rw [World.cell?_alloc_new]; rfl, z, hC.later b1, hF.later b1, kk⟩
  have KZ : Hid (cl ≤ maxLen ∧ fl ≤ maxLen) := ⟨kc, kf⟩
  clear hC hF b1 kc kf z
  go_enter Try.func4, Try.ntmps4
  go_wp2_with fail
  refine (bytes1_any s0 s1 s2 s3 s4 ca cl cc C fa fl fc G _ HM.out.z HM.out.C HM.out.F KZ.out.1 KZ.out.2).mono ?_
  rintro _ w2 ⟨⟨rr, rfl, hr⟩, b2⟩
  have B2 : Hid (Below w.heap.size w w2) := (below1 w _).trans (b2.mono (by simp))
  have HM2 : Hid (ManAt w2 w.heap.size 0 s0 s1 s2 s3 s4 ca cl cc C fa fl fc G) := HM.out.later b2
  clear b2 HM
  cases rr
  · clear hr
    go_wp2
    go_ret
    exact ⟨rfl, B2.out⟩
  obtain ⟨hcl, hfl⟩ := hr rfl
  clear hr
  go_wp2_with fail
  refine (manifestSize_any 0 w.heap.size 0 s0 s1 s2 s3 s4 ca cl cc C fa fl fc G w2 HM2.out (by omega) (by omega) hcl hfl).mono ?_
  rintro _ _ ⟨m, rfl, hm, rfl⟩
  by_cases hbig : 1048576 < m
  · go_wp2
    go_ret
    exact ⟨rfl, B2.out⟩
  go_wp2_with fail
  refine (toBundle_any w.heap.size 0 s0 s1 s2 s3 s4 ca cl cc C fa fl fc G w2 HM2.out hcl hfl).mono ?_
  rintro _ w3 ⟨nb, ca', cc', fa', fc', rfl, hman3, b3⟩
  have B3 : Hid (Below w.heap.size w w3) := B2.out.trans (b3.mono B2.out.size)
  have HM3 : Hid (ManAt w3 w.heap.size 0 s0 s1 s2 s3 s4 ca cl cc C fa fl fc G) := HM2.out.later b3
  have HN3 : Hid (ManAt w3 nb 0 s0 s1 s2 s3 s4 ca' cl cc' C fa' fl fc' G) := hman3
  clear hman3 b3 HM2 B2
  go_wp2_with fail
  refine (diff_nil none 0 (fun _ => ByteArray.empty) 0 G nb 0 s0 s1 s2 s3 s4 ca' cl cc' C fa' fl fc' G w3 (.inl ⟨rfl, rfl, rfl⟩) HN3.out (by omega) (by omega) rfl hcl hfl _ rfl).mono ?_
  rintro _ w4 ⟨v, r, rfl, hr, hown, _, b4⟩
  have hadd := diffT_adds ltS G G fl fl 0 (by omega)
  obtain ⟨va, vc, hv, hrow⟩ := owned_rowA (P := fun k => (G k).path) hown (fun k hk => by rw [hadd.1] at hk; have := hadd.2 k hk; rw [Nat.zero_add] at this; exact this)
  rw [hadd.1] at hv hrow
  subst hv
  have hrv : r = (cl == 0) := by
    rw [Bool.eq_iff_iff, hr.out]
    unfold EqS
    constructor
    · intro h; simp [← h.1]
    · intro h; have : cl = 0 := by simpa using h
      exact ⟨this.symm, fun i hi => absurd hi (Nat.not_lt_zero i)⟩
  have B4 : Hid (Below w.heap.size w w4) := B3.out.trans (b4.mono B3.out.size)
  have HM4 : Hid (ManAt w4 w.heap.size 0 s0 s1 s2 s3 s4 ca cl cc C fa fl fc G) := HM3.out.later b4
  have HR4 : Hid (RowA w4 va fl (fun k => (G k).path)) := hrow
  have HRV : Hid (r = (cl == 0)) := hrv
  clear hr hown hrow b4 HM3 HN3 B3 hadd hrv
  have d5 : w4.cell? ⟨w.heap.size, 5, none⟩ = some (.slice ca cl cc) := HM4.out.c5
  have d6 : w4.cell? ⟨w.heap.size, 6, none⟩ = some (.slice fa fl fc) := HM4.out.c6
  have hsz := World.block_lt_of_cell? _ _ d5
  have hrr : (!r) = ((cl : Int) != 0) := by
    rw [HRV.out]
    by_cases h0 : cl = 0
    · subst h0; rfl
    · have e1 : (cl == 0) = false := by simpa using h0
      have e2 : ((cl : Int) != 0) = true := by simp; omega
      rw [e1, e2]; rfl
  have ht : (!(!r) == ((cl : Int) != 0)) = false := by rw [hrr]; simp
  clear hrr
  go_wp2
  go_loopg [4] fl (fun g t wr => ∃ (i nq : Nat), t = .int .i64 i ∧ g = fl - i ∧ i ≤ fl ∧ wr = (w4.alloc (.cells #[.slice va fl vc, .bool (!r)] 32)).drewN nq)
  case atStart => exact ⟨0, 0, rfl, rfl, Nat.zero_le _, rfl⟩
  case round =>
    obtain ⟨i, nq, rfl, hg, hi, rfl⟩ := hrel
    have HG : Hid (gk = fl - i) := hg
    clear hg
    by_cases hlt : i < fl
    · obtain ⟨b, off, rfl, h0, h1⟩ := HR4.out i hlt
      obtain ⟨⟨b', off', rfl, f0, f1, f2, f3⟩, _⟩ := HM4.out.F i hlt
      have hb := World.block_lt_of_cell? _ _ h0
      have hb' := World.block_lt_of_cell? _ _ f0
      go_wp2_with fail
      go_quiet (fail)
      go_wp2
      go_roundg (fl - (i + 1))
      case rel => exact ⟨i + 1, _, by go_num, rfl, by omega, rfl⟩
      case measure => rw [HG.out]; omega
    · have hif : i = fl := by omega
      subst hif
      go_wp2_with fail
      refine (counts_any va i vc (fun k => (G k).path) (!r) _ (HR4.out.later (below_drewN (below1 w4 _) nq)) hfl).mono ?_
      rintro _ w5 ⟨rfl, b5⟩
      have B5 : Below w.heap.size w w5 := (B4.out.trans ((below_drewN (below1 w4 _) nq).mono B4.out.size)).trans (b5.mono (by have := B4.out.size; simp; omega))
      have q0 : w5.cell? ⟨w4.heap.size, 0, none⟩ = some (.slice va i vc) := cell_later b5 (by simp)
      have q1 : w5.cell? ⟨w4.heap.size, 1, none⟩ = some (.bool (!r)) := cell_later b5 (by simp)
      have hq5 := World.block_lt_of_cell? _ _ q0
      have p6 : w5.cell? ⟨w.heap.size, 6, none⟩ = some (.slice fa i fc) := cell_later b5 (by rw [World.cell?_drewN, World.cell?_alloc_lt _ _ _ hsz]; exact d6)
      have hp6 := World.block_lt_of_cell? _ _ p6
      have B5 : Hid (Below w.heap.size w w5) := B5
      clear b5 d5 d6
      go_wp2
      go_ret
      exact ⟨rfl, B5.out.alloc B5.out.size _⟩

end Go.Proofs.Qxb6603865a
