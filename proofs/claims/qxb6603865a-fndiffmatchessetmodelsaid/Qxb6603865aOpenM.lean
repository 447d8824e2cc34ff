import Derived.Test.Qxb6603865aOpen
import Derived.Test.Qxb6603865aMan
import Derived.Lib.SmallJoins
namespace Go.Proofs.Qxb6603865a
open Go.ChangeShapes Go.WideShapes Go.ChangeAt Go.RowKit Go.Joins Go.Deep

theorem cells45 : Try.prog.cellsOf 45 = 4 := by kernel_rfl
theorem cells2 : Try.prog.cellsOf 2 = 1 := by kernel_rfl
theorem cells43 : Try.prog.cellsOf 43 = 1 := by kernel_rfl
theorem cells26 : Try.prog.cellsOf 26 = 1 := by kernel_rfl
theorem cells25 : Try.prog.cellsOf 25 = 1 := by kernel_rfl
theorem cells28 : Try.prog.cellsOf 28 = 7 := by kernel_rfl

theorem list4 {α : Type} {l : List α} (h : l.length = 4) : ∃ a b c d, l = [a, b, c, d] := by
  match l, h with
  | [a, b, c, d], _ => exact ⟨a, b, c, d, rfl⟩
theorem list7 {α : Type} {l : List α} (h : l.length = 7) : ∃ a b c d e f g, l = [a, b, c, d, e, f, g] := by
  match l, h with
  | [a, b, c, d, e, f, g], _ => exact ⟨a, b, c, d, e, f, g, rfl⟩

section
variable {H : Type} {enc : TypeId × Value → H} {W : World} {base : Nat} {held : Bool}

theorem open_file {fuel : Nat} {cs : List Value} {x : DataW H × List MemPlace} (h : DataW.trod enc Try.prog W base (fun _ => true) held fuel 45 cs = some x) :
    ∃ (p q : ByteArray) (z m : Int), cs = [.string p, .string q, .int .i64 z, .int .u32 m] ∧ p.size ≤ maxLen ∧ q.size ≤ maxLen := by
  obtain ⟨y0, y1, y2, y3, n, _, hl, h0, h1, h2, h3⟩ := trod_struct4 Try.underlying45 h
  rw [cells45] at hl
  obtain ⟨c0, c1, c2, c3, rfl⟩ := list4 hl
  simp only [cells9, cells2, cells43, List.drop_zero, List.drop_succ_cons, List.take_succ_cons, List.take_zero] at h0 h1 h2 h3
  obtain ⟨p, e0, _, z0⟩ := DataW.trod_string Try.underlying9 h0
  obtain ⟨q, e1, _, z1⟩ := DataW.trod_string Try.underlying9 h1
  obtain ⟨z, e2, _, _⟩ := DataW.trod_int Try.underlying2 h2
  obtain ⟨m, e3, _, _⟩ := DataW.trod_int Try.underlying43 h3
  simp only [List.cons.injEq, and_true] at e0 e1 e2 e3
  subst e0 e1 e2 e3
  exact ⟨p, q, z, m, rfl, z0, z1⟩

/-- A slice of files that came in, in the words of the walks. -/
theorem open_rowF {fuel : Nat} {a : Option Addr} {len cap : Nat} {x : DataW H × List MemPlace}
    (hf : DataW.trod enc Try.prog W base (fun _ => true) held fuel 25 [.slice a len cap] = some x) : ∃ F, RowF W a len F ∧ len ≤ maxLen ∧ len ≤ cap := by
  rcases open_slice Try.underlying25 hf with ⟨hcs, _⟩ | ⟨y, l, c, m, n, D, Pl, hcs, _, hl, hm, hmm, _, hx⟩
  · simp at hcs
    obtain ⟨rfl, rfl, rfl⟩ := hcs
    exact ⟨fun _ => ⟨ByteArray.empty, ByteArray.empty, 0, 0⟩, fun i hi => absurd hi (Nat.not_lt_zero i), Nat.zero_le _, Nat.le_refl _⟩
  · simp at hcs
    obtain ⟨rfl, rfl, rfl⟩ := hcs
    simp at hmm
    subst hmm
    rw [cells45] at hx
    obtain ⟨V, hV⟩ := choose_lt (α := ByteArray × ByteArray × Int × Int) (n := m) (p := fun i v => (∀ k, k < 4 → W.cell? ((y.add (i * 4)).add k) = [Value.string v.1, .string v.2.1, .int .i64 v.2.2.1, .int .u32 v.2.2.2][k]?) ∧ v.1.size ≤ maxLen ∧ v.2.1.size ≤ maxLen) (fun i hi => by
      obtain ⟨cs', h1, h2⟩ := hx i hi
      obtain ⟨p, q, z, mm, rfl, z0, z1⟩ := open_file h2
      obtain ⟨_, _, h3⟩ := World.cells?_some h1
      exact ⟨(p, q, z, mm), h3, z0, z1⟩)
    refine ⟨fun i => ⟨(V i).1, (V i).2.1, (V i).2.2.1, (V i).2.2.2⟩, fun i hi => ?_, Nat.le_trans hl hm, hl⟩
    obtain ⟨b, off, spot⟩ := y
    have hspot : spot = none := by
      have h0 := (hV 0 (by omega)).1 0 (by omega)
      have : W.cell? ⟨b, off, spot⟩ = some (.string (V 0).1) := by simpa [Addr.add] using h0
      exact World.cell?_spot this
    subst hspot
    obtain ⟨h4, hs⟩ := hV i (by omega)
    have key : ∀ k, k < 4 → W.cell? ⟨b, off + i * 4 + k, none⟩ = [Value.string (V i).1, .string (V i).2.1, .int .i64 (V i).2.2.1, .int .u32 (V i).2.2.2][k]? := by
      intro k hk
      rw [← h4 k hk, add_plain, add_plain]
    exact ⟨⟨b, off, rfl, key 0 (by omega), key 1 (by omega), key 2 (by omega), key 3 (by omega)⟩, hs⟩

/-- The seven cells of a manifest. -/
theorem open_man {fuel : Nat} {cs : List Value} {x : DataW H × List MemPlace} (h : DataW.trod enc Try.prog W base (fun _ => true) held fuel 28 cs = some x) :
    ∃ (s0 s1 s2 s3 s4 : ByteArray) (ca : Option Addr) (cl cc : Nat) (C : Nat → ByteArray) (fa : Option Addr) (fl fc : Nat) (F : Nat → FileR), cs = [.string s0, .string s1, .string s2, .string s3, .string s4, .slice ca cl cc, .slice fa fl fc] ∧
      (s0.size ≤ maxLen ∧ s1.size ≤ maxLen ∧ s2.size ≤ maxLen ∧ s3.size ≤ maxLen ∧ s4.size ≤ maxLen) ∧ RowS W ca cl C ∧ cl ≤ maxLen ∧ RowF W fa fl F ∧ fl ≤ maxLen ∧ fl ≤ fc := by
  obtain ⟨xs, n, _, _, hl, hlen, hf⟩ := DataW.trod_struct Try.underlying28 h
  rw [cells28] at hl
  obtain ⟨c0, c1, c2, c3, c4, c5, c6, rfl⟩ := list7 hl
  have hxs : xs.length = 7 := by simpa using hlen
  obtain ⟨x0, x1, x2, x3, x4, x5, x6, rfl⟩ := list7 hxs
  have h0 := hf 0 { name := "Schema", type := 9, offset := 0, embedded := false, tag := "", pkgPath := "", byteOffset := 0 } rfl
  have h1 := hf 1 { name := "Name", type := 9, offset := 1, embedded := false, tag := "", pkgPath := "", byteOffset := 16 } rfl
  have h2 := hf 2 { name := "Version", type := 9, offset := 2, embedded := false, tag := "", pkgPath := "", byteOffset := 32 } rfl
  have h3 := hf 3 { name := "Platform", type := 9, offset := 3, embedded := false, tag := "", pkgPath := "", byteOffset := 48 } rfl
  have h4 := hf 4 { name := "Channel", type := 9, offset := 4, embedded := false, tag := "", pkgPath := "", byteOffset := 64 } rfl
  have h5 := hf 5 { name := "Command", type := 26, offset := 5, embedded := false, tag := "", pkgPath := "", byteOffset := 80 } rfl
  have h6 := hf 6 { name := "Files", type := 25, offset := 6, embedded := false, tag := "", pkgPath := "", byteOffset := 104 } rfl
  simp only [cells9, cells26, cells25, List.drop_zero, List.drop_succ_cons, List.take_succ_cons, List.take_zero, List.getElem?_cons_zero, List.getElem?_cons_succ] at h0 h1 h2 h3 h4 h5 h6
  obtain ⟨s0, e0, _, z0⟩ := DataW.trod_string Try.underlying9 h0
  obtain ⟨s1, e1, _, z1⟩ := DataW.trod_string Try.underlying9 h1
  obtain ⟨s2, e2, _, z2⟩ := DataW.trod_string Try.underlying9 h2
  obtain ⟨s3, e3, _, z3⟩ := DataW.trod_string Try.underlying9 h3
  obtain ⟨s4, e4, _, z4⟩ := DataW.trod_string Try.underlying9 h4
  obtain ⟨ca, cl, cc, e5⟩ := slice_form Try.underlying26 h5
  obtain ⟨fa, fl, fc, e6⟩ := slice_form Try.underlying25 h6
  simp only [List.cons.injEq, and_true] at e0 e1 e2 e3 e4 e5 e6
  subst e0 e1 e2 e3 e4 e5 e6
  obtain ⟨C, hC, kC⟩ := open_rowS h5
  obtain ⟨F, hF, kF, kk⟩ := open_rowF h6
  exact ⟨s0, s1, s2, s3, s4, ca, cl, cc, C, fa, fl, fc, F, rfl, ⟨z0, z1, z2, z3, z4⟩, hC, kC, hF, kF, kk⟩
end

end Go.Proofs.Qxb6603865a
