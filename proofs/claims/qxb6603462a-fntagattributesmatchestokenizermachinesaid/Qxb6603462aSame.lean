import Derived.Test.Qxb6603462aTagMem
import Derived.Deep.QuietTactic
import Derived.BigQuiet
namespace Go.Proofs.Qxb6603462a.Same
open Go.RowKit Go.Proofs.Qxb6603462a.Use

set_option maxHeartbeats 1000000 in
theorem nil_is (w : World) : Calls Try.prog 16 #[.slice none 0 0, .slice none 0 0] w fun r w' => r = .returned (.bool true) ∧ ∃ k, w' = w.drewN k := by
  have hq := Lib.run_eql_slice_nil (P := Try.prog) w 34 25 none 0 0 0 0 Try.underlying34
  go_enter Try.func16, Try.ntmps16
  go_wp2
  go_loop [5] (fun t => t = .int .i64 0) (fun _ => 0)
  case atStart => exact rfl
  case round =>
    subst hrel
    go_wp2
    go_ret
    exact ⟨rfl, 0, rfl⟩

set_option maxHeartbeats 1000000 in
theorem some_is (w : World) (g1 g2 n c1 c2 : Nat) (X : Nat → At) (hn : n ≤ 1048576) (h1 : Hid (∀ k, k < n → ∀ j u, (X k).vals[j]? = some u → w.cell? ⟨g1, k * 6 + j, none⟩ = some u)) (h2 : Hid (∀ k, k < n → ∀ j u, (X k).vals[j]? = some u → w.cell? ⟨g2, k * 6 + j, none⟩ = some u)) :
    Calls Try.prog 16 #[.slice (some ⟨g1, 0, none⟩) n c1, .slice (some ⟨g2, 0, none⟩) n c2] w fun r w' => r = .returned (.bool true) ∧ ∃ k, w' = w.drewN k := by
  have hq1 := Lib.run_eql_slice_nil (P := Try.prog) w 34 25 (some ⟨g1, 0, none⟩) n c1 0 0 Try.underlying34
  have hq2 := Lib.run_eql_slice_nil (P := Try.prog) w 34 25 (some ⟨g2, 0, none⟩) n c2 0 0 Try.underlying34
  go_enter Try.func16, Try.ntmps16
  go_wp2
  go_loopg [5] n (fun g t wr => ∃ k nq : Nat, t = .int .i64 k ∧ g = n - k ∧ k ≤ n ∧ wr = w.drewN nq)
  case atStart => exact ⟨0, 0, rfl, rfl, by omega, rfl⟩
  case round =>
    obtain ⟨k, nq, rfl, hg, hk, rfl⟩ := hrel
    have HG : Hid (gk = n - k) := hg
    clear hg hq1 hq2
    by_cases hlt : k < n
    · have a0 : w.cell? ⟨g1, k * 6, none⟩ = some (.int .i64 (X k).s) := h1.out k hlt 0 _ rfl
      have a1 : w.cell? ⟨g1, k * 6 + 1, none⟩ = some (.int .i64 (X k).n) := h1.out k hlt 1 _ rfl
      have a2 : w.cell? ⟨g1, k * 6 + 2, none⟩ = some (.int .i64 (X k).e) := h1.out k hlt 2 _ rfl
      have a3 : w.cell? ⟨g1, k * 6 + 3, none⟩ = some (.int .i64 (X k).v) := h1.out k hlt 3 _ rfl
      have a4 : w.cell? ⟨g1, k * 6 + 4, none⟩ = some (.int .i64 (X k).ve) := h1.out k hlt 4 _ rfl
      have a5 : w.cell? ⟨g1, k * 6 + 5, none⟩ = some (.int .i64 (X k).en) := h1.out k hlt 5 _ rfl
      have b0 : w.cell? ⟨g2, k * 6, none⟩ = some (.int .i64 (X k).s) := h2.out k hlt 0 _ rfl
      have b1 : w.cell? ⟨g2, k * 6 + 1, none⟩ = some (.int .i64 (X k).n) := h2.out k hlt 1 _ rfl
      have b2 : w.cell? ⟨g2, k * 6 + 2, none⟩ = some (.int .i64 (X k).e) := h2.out k hlt 2 _ rfl
      have b3 : w.cell? ⟨g2, k * 6 + 3, none⟩ = some (.int .i64 (X k).v) := h2.out k hlt 3 _ rfl
      have b4 : w.cell? ⟨g2, k * 6 + 4, none⟩ = some (.int .i64 (X k).ve) := h2.out k hlt 4 _ rfl
      have b5 : w.cell? ⟨g2, k * 6 + 5, none⟩ = some (.int .i64 (X k).en) := h2.out k hlt 5 _ rfl
      go_wp2
      go_quiet (fail)
      go_wp2
      go_roundg (n - (k + 1))
      case rel => exact ⟨k + 1, _, by go_num, rfl, by omega, rfl⟩
      case measure => rw [HG.out]; omega
    · go_wp2
      go_ret
      exact ⟨rfl, nq, rfl⟩

theorem flatA_get (d : At) : ∀ (L : List At) (k : Nat), k < L.length → ∀ j, j < 6 → (flatA L)[k * 6 + j]? = (L.getD k d).vals[j]?
  | [], k, h, j, hj => absurd h (Nat.not_lt_zero k)
  | a :: L, 0, h, j, hj => by
    show (a.vals ++ flatA L)[0 * 6 + j]? = _
    rw [List.getElem?_append_left (by show 0 * 6 + j < 6; omega), Nat.zero_mul, Nat.zero_add]
    rfl
  | a :: L, k + 1, h, j, hj => by
    show (a.vals ++ flatA L)[(k + 1) * 6 + j]? = _
    have hl : a.vals.length = 6 := rfl
    rw [List.getElem?_append_right (by rw [hl]; omega), hl, show (k + 1) * 6 + j - 6 = k * 6 + j by omega, flatA_get d L k (by simpa using h) j hj]
    rfl

theorem six_lt {x : At} {j : Nat} {u : Value} (h : x.vals[j]? = some u) : j < 6 := (List.getElem?_eq_some_iff.1 h).1

/-- Two rows of the call's own that read one list: the comparison says true. -/
theorem same_is (w : World) (b1 b2 : Nat) (v1 v2 : Value) (L : List At) (hL : L.length ≤ 1048576) (h1 : w.ownsRow b1 25 6 v1 L.length (flatA L)) (n1 : L = [] → v1 = .slice none 0 0)
    (h2 : w.ownsRow b2 25 6 v2 L.length (flatA L)) (n2 : L = [] → v2 = .slice none 0 0) :
    Calls Try.prog 16 #[v1, v2] w fun r w' => r = .returned (.bool true) ∧ ∃ k, w' = w.drewN k := by
  by_cases he : L = []
  · rw [n1 he, n2 he]
    exact nil_is w
  · have hp : L.length ≠ 0 := fun h => he (List.eq_nil_of_length_eq_zero h)
    have key : ∀ (b : Nat) (v : Value), w.ownsRow b 25 6 v L.length (flatA L) → ∃ g cap, v = .slice (some ⟨g, 0, none⟩) L.length cap ∧ ∀ k, k < L.length → ∀ j u, (L.getD k ⟨0, 0, 0, 0, 0, 0⟩).vals[j]? = some u → w.cell? ⟨g, k * 6 + j, none⟩ = some u := by
      intro b v h
      have hc := h
      rcases h.2 with ⟨_, h0⟩ | ⟨g, cap, cur, rfl, _⟩
      · exact absurd h0 hp
      · refine ⟨g, cap, rfl, fun k hk j u hu => ?_⟩
        have := hc.cells (g := g) rfl (k * 6 + j) u (by rw [flatA_get ⟨0, 0, 0, 0, 0, 0⟩ L k hk j (six_lt hu)]; exact hu)
        have hadd : (⟨g, 0, none⟩ : Addr).add (k * 6 + j) = ⟨g, k * 6 + j, none⟩ := by unfold Addr.add; split <;> simp_all
        rw [hadd] at this
        exact this
    obtain ⟨g1, c1, rfl, k1⟩ := key b1 v1 h1
    obtain ⟨g2, c2, rfl, k2⟩ := key b2 v2 h2
    exact some_is w g1 g2 L.length c1 c2 (fun k => L.getD k ⟨0, 0, 0, 0, 0, 0⟩) hL k1 k2

end Go.Proofs.Qxb6603462a.Same
