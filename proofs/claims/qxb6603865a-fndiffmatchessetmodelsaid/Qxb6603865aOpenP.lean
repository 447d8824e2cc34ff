import Derived.Test.Qxb6603865aOpenM
import Derived.Test.Qxb6603865aDiffMem
namespace Go.Proofs.Qxb6603865a
open Go.ChangeShapes Go.WideShapes Go.ChangeAt Go.RowKit Go.Joins Go.Deep

/-- A pointer to a manifest that came in, or nil, in the words of the walks. -/
theorem open_from {H : Type} {enc : TypeId × Value → H} {W : World} {base b0 : Nat} {held : Bool} {r : Reach} {v : Value} {d : DataW H} {ps : List MemPlace}
    (hval : Value.okWide Try.prog W r b0 22 v) (hd : DataW.Trod enc Try.prog W base (fun _ => true) held 22 v d ps) :
    ∃ (fp : Option Addr) (bl nb : Nat) (B : Nat → ByteArray) (F : Nat → FileR), v = .pointer fp ∧ FromAt W fp bl B nb F ∧ bl ≤ maxLen ∧ nb ≤ maxLen := by
  rcases open_ptr Try.underlying22 (by rw [cells28]; omega) hval hd with ⟨rfl, _, _⟩ | ⟨b, off, cs, y, fuel, rfl, _, _, _, hcell, hy⟩
  · exact ⟨none, 0, 0, fun _ => ByteArray.empty, fun _ => ⟨ByteArray.empty, ByteArray.empty, 0, 0⟩, rfl, .inl ⟨rfl, rfl, rfl⟩, Nat.zero_le _, Nat.zero_le _⟩
  · rw [cells28] at hcell
    obtain ⟨s0, s1, s2, s3, s4, ca, cl, cc, C, fa, fl, fc, F, rfl, z, hC, kC, hF, kF, kk⟩ := open_man hy
    exact ⟨_, cl, fl, C, F, rfl, .inr ⟨b, off, s0, s1, s2, s3, s4, ca, cc, fa, fc, rfl, ⟨hcell 0 (by omega), hcell 1 (by omega), hcell 2 (by omega), hcell 3 (by omega), hcell 4 (by omega), hcell 5 (by omega), hcell 6 (by omega), z, hC, hF, kk⟩⟩, kC, kF⟩

end Go.Proofs.Qxb6603865a
