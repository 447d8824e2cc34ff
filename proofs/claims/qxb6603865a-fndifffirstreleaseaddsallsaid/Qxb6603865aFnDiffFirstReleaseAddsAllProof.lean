/-
  THE PROOF OF 'Rows.FnDiffFirstReleaseAddsAllSaid'. The frame is the guide's (as its program writes it for slices of integers), turned to a struct by value.
-/
import Derived.Test.Qxb6603865aRows
import Derived.WalkKit
import Derived.Below
import Derived.Test.Qxb6603865aOpenM
import Derived.Test.Qxb6603865aFirst
namespace Go.Proofs.Qxb6603865a.fnDiffFirstReleaseAddsAll
open Go.ChangeShapes Go.WideShapes Go.ChangeAt Go.RowKit
open Go.Proofs.Qxb6603865a
set_option linter.unusedVariables false

set_option maxRecDepth 100000 in
theorem lifted (os : Os) (started : os.Started) (H : Type) (enc : TypeId × Value → H) :
    ReturnsInHanded {} Try.checked os 4 .any (Rows.fnDiffFirstReleaseAddsAllSpec.pre6 enc Try.prog Try.f4 Rows.fnDiffFirstReleaseAddsAllRow.domain false) (Rows.fnDiffFirstReleaseAddsAllSpec.post enc Try.prog Try.f4 false true false false) := by
  refine returnsInHanded_of_change (C := Try.checked) own started (by kernel_rfl) Try.func4
    (ChangeSpec.witness6 (enc := enc) (C := Try.checked) false ⟨#[], #[.agg #[.string ByteArray.empty, .string ByteArray.empty, .string ByteArray.empty, .string ByteArray.empty, .string ByteArray.empty, .slice none 0 0, .slice none 0 0]], []⟩ 8 (by kernel_rfl) (by kernel_rfl) (by kernel_rfl) (by kernel_rfl)) ?_
  intro W base args ds gs before hval0 hW hcnd _
  have hval : ∀ (j : Nat) t v, Try.f4.params[j]? = some t → args[j]? = some v → Value.okWide Try.prog W .any base t v := hval0
  have hW' := hW
  obtain ⟨p, q, hA0, hV, rfl, hfz, hnd⟩ := hW
  have hA : DataW.TrodAll enc Try.prog W 0 (fun _ => true) true Try.f4.params.toList args.toList ds p := hA0
  rw [Try.params4] at hA hval
  obtain ⟨v0, vs0, d0, ds0, p0, q0, hargs, rfl, rfl, h0, r0⟩ := trodAll_cons hA
  obtain ⟨rfl, rfl, rfl⟩ := trodAll_nil r0
  obtain rfl : args = #[v0] := by cases args; simp_all
  obtain ⟨rfl, rfl⟩ := trodVars_none hV
  obtain ⟨cs, rfl, hsz⟩ := okWide_struct Try.underlying28 (hval 0 28 v0 rfl rfl)
  have k0 := h0
  have lt0 : ∀ x ∈ p0, x.block < W.heap.size := by obtain ⟨m, hm⟩ := k0; exact DataW.trod_lt m _ _ _ hm
  obtain ⟨s0, s1, s2, s3, s4, ca, cl, cc, C, fa, fl, fc, F, hcs, z, hC, kC, hF, kF, kk⟩ : ∃ (s0 s1 s2 s3 s4 : ByteArray) (ca : Option Addr) (cl cc : Nat) (C : Nat → ByteArray) (fa : Option Addr) (fl fc : Nat) (F : Nat → FileR), cs = #[.string s0, .string s1, .string s2, .string s3, .string s4, .slice ca cl cc, .slice fa fl fc] ∧
      (s0.size ≤ maxLen ∧ s1.size ≤ maxLen ∧ s2.size ≤ maxLen ∧ s3.size ≤ maxLen ∧ s4.size ≤ maxLen) ∧ RowS W ca cl C ∧ cl ≤ maxLen ∧ RowF W fa fl F ∧ fl ≤ maxLen ∧ fl ≤ fc := by
    obtain ⟨m, hm⟩ := h0
    obtain ⟨s0, s1, s2, s3, s4, ca, cl, cc, C, fa, fl, fc, F, hcs, rest⟩ := open_man hm
    refine ⟨s0, s1, s2, s3, s4, ca, cl, cc, C, fa, fl, fc, F, ?_, rest⟩
    have : cs.toList = _ := hcs
    rw [← this]
  subst hcs
  clear hA0 hval0
  refine (first_is s0 s1 s2 s3 s4 ca cl cc C fa fl fc F W z hC hF kC kF kk).mono fun e W' ⟨he, bel⟩ => ?_
  subst he
  exact ⟨_, rfl, _, _, _, [], _, [], hW', trodAll_mk1 (shut_bool Try.underlying4 _), (trodAll_cons_mk (Below.trod laidOut (by kernel_rfl) (of_decide_eq_true (by kernel_rfl)) k0 bel lt0) trodAll_mk0), rfl, bel.frame _, fun h => by cases h⟩

theorem over : Rows.fnDiffFirstReleaseAddsAllRow.holds Try.pinned (OpenSpec.ofChange Rows.fnDiffFirstReleaseAddsAllSpec) :=
  OpenClaim.holds_of_wide 4 Try.f4 rfl rfl rfl rfl rfl rfl rfl ⟨rfl, rfl, rfl, rfl, rfl⟩ rfl rfl rfl rfl rfl (by kernel_rfl) Try.func4 (by kernel_rfl)
    (of_decide_eq_true (by kernel_rfl)) (by unfold Func.isWrapper; first | (rw [if_pos (by decide +kernel)]; kernel_rfl) | (rw [if_neg (by decide +kernel)]; exact ⟨rfl, rfl⟩))
    (fun os started H enc _ => lifted os started H enc)

/-- ████ THE STATEMENT ████ -/
theorem proved : Rows.FnDiffFirstReleaseAddsAllSaid := over
#print axioms proved
end Go.Proofs.Qxb6603865a.fnDiffFirstReleaseAddsAll
