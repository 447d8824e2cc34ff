import Derived.Test.Qxb6603865aBytes3
import Derived.Test.Qxb6603865aPlainDiff
namespace Go.Proofs.Qxb6603865a
open Go.RowKit

/-- A slice of files of length n that reads as F (four cells a file). -/
def RowF (w : World) (a : Option Addr) (n : Nat) (F : Nat → FileR) : Prop :=
  ∀ i, i < n → (∃ b off, a = some ⟨b, off, none⟩ ∧ w.cell? ⟨b, off + i * 4, none⟩ = some (.string (F i).path) ∧ w.cell? ⟨b, off + i * 4 + 1, none⟩ = some (.string (F i).sha) ∧
    w.cell? ⟨b, off + i * 4 + 2, none⟩ = some (.int .i64 (F i).size) ∧ w.cell? ⟨b, off + i * 4 + 3, none⟩ = some (.int .u32 (F i).mode)) ∧ (F i).path.size ≤ maxLen ∧ (F i).sha.size ≤ maxLen

theorem RowF.later {w wr : World} {a : Option Addr} {n : Nat} {F : Nat → FileR} (h : RowF w a n F) (hb : Below w.heap.size w wr) : RowF wr a n F := by
  intro i hi
  obtain ⟨⟨b, off, ha, h0, h1, h2, h3⟩, hs⟩ := h i hi
  exact ⟨⟨b, off, ha, cell_later hb h0, cell_later hb h1, cell_later hb h2, cell_later hb h3⟩, hs⟩

/-- A manifest at a pointer: five strings, the command, the files. -/
structure ManAt (w : World) (pb po : Nat) (s0 s1 s2 s3 s4 : ByteArray) (ca : Option Addr) (cl cc : Nat) (C : Nat → ByteArray) (fa : Option Addr) (fl fc : Nat) (F : Nat → FileR) : Prop where
  c0 : w.cell? ⟨pb, po, none⟩ = some (.string s0)
  c1 : w.cell? ⟨pb, po + 1, none⟩ = some (.string s1)
  c2 : w.cell? ⟨pb, po + 2, none⟩ = some (.string s2)
  c3 : w.cell? ⟨pb, po + 3, none⟩ = some (.string s3)
  c4 : w.cell? ⟨pb, po + 4, none⟩ = some (.string s4)
  c5 : w.cell? ⟨pb, po + 5, none⟩ = some (.slice ca cl cc)
  c6 : w.cell? ⟨pb, po + 6, none⟩ = some (.slice fa fl fc)
  z : s0.size ≤ maxLen ∧ s1.size ≤ maxLen ∧ s2.size ≤ maxLen ∧ s3.size ≤ maxLen ∧ s4.size ≤ maxLen
  C : RowS w ca cl C
  F : RowF w fa fl F
  k : fl ≤ fc

theorem ManAt.later {w wr : World} {pb po : Nat} {s0 s1 s2 s3 s4 : ByteArray} {ca : Option Addr} {cl cc : Nat} {C : Nat → ByteArray} {fa : Option Addr} {fl fc : Nat} {F : Nat → FileR}
    (h : ManAt w pb po s0 s1 s2 s3 s4 ca cl cc C fa fl fc F) (hb : Below w.heap.size w wr) : ManAt wr pb po s0 s1 s2 s3 s4 ca cl cc C fa fl fc F :=
  ⟨cell_later hb h.c0, cell_later hb h.c1, cell_later hb h.c2, cell_later hb h.c3, cell_later hb h.c4, cell_later hb h.c5, cell_later hb h.c6, h.z, h.C.later hb, h.F.later hb, h.k⟩

set_option maxRecDepth 8000 in
set_option maxHeartbeats 2000000 in
theorem manifestSize_any (n : Int) (pb po : Nat) (s0 s1 s2 s3 s4 : ByteArray) (ca : Option Addr) (cl cc : Nat) (C : Nat → ByteArray) (fa : Option Addr) (fl fc : Nat) (F : Nat → FileR) (w : World)
    (h : ManAt w pb po s0 s1 s2 s3 s4 ca cl cc C fa fl fc F) (n0 : 0 ≤ n) (n1 : n ≤ 1048577) (hcl : cl ≤ 1048576) (hfl : fl ≤ 1048576) :
    Calls Try.prog 9 #[.int .i64 n, .pointer (some ⟨pb, po, none⟩)] w fun e w' => ∃ m : Int, e = .returned (.int .i64 m) ∧ (0 ≤ m ∧ m ≤ 1048577) ∧ w = w' := by
  obtain ⟨c0, c1, c2, c3, c4, c5, c6, ⟨z0, z1, z2, z3, z4⟩, hC, hF, _⟩ := h
  have HC : Hid (RowS w ca cl C) := hC
  have HF : Hid (RowF w fa fl F) := hF
  clear hC hF
  unfold maxLen at z0 z1 z2 z3 z4
  go_enter Try.func9, Try.ntmps9
  go_wp2_with fail
  refine (addCap_any _ _ _ n0 n1 (by omega) (by omega)).mono ?_
  rintro _ _ ⟨m0, rfl, hm0, rfl⟩
  go_wp2_with fail
  refine (addCap_any _ _ _ hm0.1 hm0.2 (by omega) (by omega)).mono ?_
  rintro _ _ ⟨m1, rfl, hm1, rfl⟩
  go_wp2_with fail
  refine (addCap_any _ _ _ hm1.1 hm1.2 (by omega) (by omega)).mono ?_
  rintro _ _ ⟨m2, rfl, hm2, rfl⟩
  go_wp2_with fail
  refine (addCap_any _ _ _ hm2.1 hm2.2 (by omega) (by omega)).mono ?_
  rintro _ _ ⟨m3, rfl, hm3, rfl⟩
  go_wp2_with fail
  refine (addCap_any _ _ _ hm3.1 hm3.2 (by omega) (by omega)).mono ?_
  rintro _ _ ⟨m4, rfl, hm4, rfl⟩
  go_wp2_with fail
  refine (argvSize_any _ _ _ _ C _ HC.out hm4.1 hm4.2 hcl).mono ?_
  rintro _ _ ⟨m5, rfl, hm5, rfl⟩
  go_wp2_with fail
  refine (addCap_any _ _ _ hm5.1 hm5.2 (by omega) (by omega)).mono ?_
  rintro _ _ ⟨m6, rfl, hm6, rfl⟩
  go_wp2
  go_loop [0, 5] (fun s t => ∃ (m : Int) (i : Nat), s = .int .i64 m ∧ t = .int .i64 i ∧ 0 ≤ m ∧ m ≤ 1048577 ∧ i ≤ fl) (fun _ t => fl - (intOf t).toNat)
  case atStart => exact ⟨m6, 0, rfl, rfl, hm6.1, hm6.2, Nat.zero_le _⟩
  case round =>
    obtain ⟨m, i, rfl, rfl, h0, h1, hi⟩ := hrel
    by_cases hlt : i < fl
    · obtain ⟨⟨b, off, rfl, f0, f1, f2, f3⟩, hs1, hs2⟩ := HF.out i hlt
      unfold maxLen at hs1 hs2
      by_cases hm : 1048576 < m
      · go_wp2
        go_ret
        exact ⟨_, rfl, by omega, rfl⟩
      · go_wp2_with fail
        refine (addCap_any _ _ _ h0 h1 (by omega) (by omega)).mono ?_
        rintro _ _ ⟨m7, rfl, hm7, rfl⟩
        go_wp2_with fail
        refine (addCap_any _ _ _ hm7.1 hm7.2 (by omega) (by omega)).mono ?_
        rintro _ _ ⟨m8, rfl, hm8, rfl⟩
        go_wp2
        go_round
        case rel => exact ⟨m8, i + 1, rfl, by go_num, hm8.1, hm8.2, by omega⟩
        case measure => simp [intOf]; omega
    · go_wp2
      go_ret
      exact ⟨_, rfl, by omega, rfl⟩

end Go.Proofs.Qxb6603865a
