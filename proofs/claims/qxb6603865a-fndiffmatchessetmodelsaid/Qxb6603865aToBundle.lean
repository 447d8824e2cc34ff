import Derived.Test.Qxb6603865aMan
import Derived.Test.Qxb6603865aCopy
import Derived.Deep.CutBlock
import Derived.Deep.DeepCutAuto
import Derived.Deep.RegionHeld3
import Derived.Laws.Pointers
namespace Go.Proofs.Qxb6603865a
open Go.RowKit

theorem info63 : (Try.prog.info? 63).map (fun i => (i.zero, i.size, i.bytes)) = some (some (.agg #[.string ByteArray.empty, .string ByteArray.empty, .int .i64 0, .int .u32 0]), 4, 48) := by kernel_rfl

def zeroF : Array Value := #[.string ByteArray.empty, .string ByteArray.empty, .int .i64 0, .int .u32 0]

theorem make_runF (len : Nat) (h : len ≤ 1048576) (w : World) :
    (Instr.makeSlice 58 (.int .i64 (len : Int)) (.int .i64 (len : Int))).run Try.prog w = .ok (.slice (some ⟨w.heap.size, 0, none⟩) len len) (w.alloc (.cells (madeCells zeroF (len * 4)) 63)) := by
  obtain ⟨i, hi, hz, hs, hb⟩ := info_parts info63
  have := run_make (P := Try.prog) w 58 63 i _ Try.underlying58 hi hz .i64 .i64 len len (by omega) (Int.le_refl _) (by rw [hb]; omega) (by omega)
  rw [hs] at this
  simpa [Value.cells, zeroF] using this

theorem rowS_none {w : World} {n : Nat} {g : Nat → ByteArray} (h : RowS w none n g) : n = 0 := by
  by_cases hn : n = 0
  · exact hn
  · obtain ⟨⟨b, off, e, _⟩, _⟩ := h 0 (by omega)
    cases e
theorem rowF_none {w : World} {n : Nat} {F : Nat → FileR} (h : RowF w none n F) : n = 0 := by
  by_cases hn : n = 0
  · exact hn
  · obtain ⟨⟨b, off, e, _⟩, _⟩ := h 0 (by omega)
    cases e

theorem rowS_block {w : World} {A : Array Value} {n : Nat} {g : Nat → ByteArray} (hA : ∀ j, j < n → A[j]? = some (.string (g j))) (hs : ∀ i, i < n → (g i).size ≤ maxLen) : RowS (w.alloc (.cells A 9)) (some ⟨w.heap.size, 0, none⟩) n g := by
  intro i hi
  exact ⟨⟨w.heap.size, 0, rfl, by rw [World.cell?_alloc_new, Nat.zero_add]; exact hA i hi⟩, hs i hi⟩

theorem set_upto {A : Array Value} {g : Nat → ByteArray} {i : Nat} (hA : ∀ j, j < i → A[j]? = some (.string (g j))) (hi : i < A.size) : ∀ j, j < i + 1 → (A.setIfInBounds i (.string (g i)))[j]? = some (.string (g j)) := by
  intro j hj
  rw [Array.getElem?_setIfInBounds]
  by_cases e : i = j
  · subst e; simp [hi]
  · rw [if_neg e]; exact hA j (by omega)

/-- File j of a block of files. -/
def FileIn (A : Array Value) (j : Nat) (f : FileR) : Prop :=
  A[j * 4]? = some (.string f.path) ∧ A[j * 4 + 1]? = some (.string f.sha) ∧ A[j * 4 + 2]? = some (.int .i64 f.size) ∧ A[j * 4 + 3]? = some (.int .u32 f.mode)

def putF (A : Array Value) (i : Nat) (f : FileR) : Array Value :=
  (((A.setIfInBounds (i * 4) (.string f.path)).setIfInBounds (i * 4 + 1) (.string f.sha)).setIfInBounds (i * 4 + 2) (.int .i64 f.size)).setIfInBounds (i * 4 + 3) (.int .u32 f.mode)

theorem putF_size (A : Array Value) (i : Nat) (f : FileR) : (putF A i f).size = A.size := by simp [putF]

theorem fileIn_put {A : Array Value} {F : Nat → FileR} {i n : Nat} (hA : ∀ j, j < i → FileIn A j (F j)) (hs : A.size = n * 4) (hi : i < n) : ∀ j, j < i + 1 → FileIn (putF A i (F i)) j (F j) := by
  intro j hj
  unfold putF
  by_cases e : j = i
  · subst e
    refine ⟨?_, ?_, ?_, ?_⟩ <;> simp [Array.getElem?_setIfInBounds] <;> omega
  · have h := hA j (by omega)
    obtain ⟨h0, h1, h2, h3⟩ := h
    refine ⟨?_, ?_, ?_, ?_⟩
    all_goals
      simp only [Array.getElem?_setIfInBounds]
      rw [if_neg (by omega), if_neg (by omega), if_neg (by omega), if_neg (by omega)]
      assumption

theorem heap_setCell_at (w : World) (b o : Nat) (cs : Array Value) (t : TypeId) (u : Value) (h : w.heap[b]? = some (.cells cs t (0, 0))) : (w.setCell ⟨b, o, none⟩ u).heap[b]? = some (.cells (cs.setIfInBounds o u) t (0, 0)) := by
  simp [World.setCell, Array.getElem?_modify, h]

theorem rowF_block {w : World} {A : Array Value} {fb n : Nat} {F : Nat → FileR} (hb : w.heap[fb]? = some (.cells A 63 (0, 0))) (hA : ∀ j, j < n → FileIn A j (F j)) (hs : ∀ i, i < n → (F i).path.size ≤ maxLen ∧ (F i).sha.size ≤ maxLen) : RowF w (some ⟨fb, 0, none⟩) n F := by
  intro i hi
  obtain ⟨h0, h1, h2, h3⟩ := hA i hi
  refine ⟨⟨fb, 0, rfl, ?_, ?_, ?_, ?_⟩, hs i hi⟩
  all_goals
    rw [cell_of_row w fb _ _ 63 (0, 0) hb]
    simpa using (by assumption)

/-- Four stores into the block of files, a new box laid behind. -/
theorem four_stores {w0 wr : World} {fb : Nat} {A : Array Value} {i : Nat} {f : FileR} (o : Obj) (hb : wr.heap[fb]? = some (.cells A 63 (0, 0))) (hl : Below fb w0 wr) :
    (((((wr.setCell ⟨fb, i * 4, none⟩ (.string f.path)).setCell ⟨fb, i * 4 + 1, none⟩ (.string f.sha)).setCell ⟨fb, i * 4 + 2, none⟩ (.int .i64 f.size)).setCell ⟨fb, i * 4 + 3, none⟩ (.int .u32 f.mode)).alloc o).heap[fb]? = some (.cells (putF A i f) 63 (0, 0)) ∧
    Below fb w0 (((((wr.setCell ⟨fb, i * 4, none⟩ (.string f.path)).setCell ⟨fb, i * 4 + 1, none⟩ (.string f.sha)).setCell ⟨fb, i * 4 + 2, none⟩ (.int .i64 f.size)).setCell ⟨fb, i * 4 + 3, none⟩ (.int .u32 f.mode)).alloc o) := by
  have e0 := heap_setCell_at wr fb (i * 4) A 63 (.string f.path) hb
  have e1 := heap_setCell_at _ fb (i * 4 + 1) _ 63 (.string f.sha) e0
  have e2 := heap_setCell_at _ fb (i * 4 + 2) _ 63 (.int .i64 f.size) e1
  have e3 := heap_setCell_at _ fb (i * 4 + 3) _ 63 (.int .u32 f.mode) e2
  have hlt := (Array.getElem?_eq_some_iff.1 e3).1
  refine ⟨?_, ?_⟩
  · rw [Below.heap_alloc _ _ _ hlt]
    exact e3
  · exact ((((hl.setCell (Nat.le_refl _) _).setCell (Nat.le_refl _) _).setCell (Nat.le_refl _) _).setCell (Nat.le_refl _) _).alloc (by omega) o

theorem cell_new_drew (w : World) (cs : Array Value) (t : TypeId) (k : Nat) (v : Value) (h : cs[k]? = some v) : (w.drew.alloc (.cells cs t)).cell? ⟨w.heap.size, k, none⟩ = some v := by
  have := World.cell?_alloc_new w.drew cs t k
  exact this.trans h

set_option maxRecDepth 8000 in
set_option maxHeartbeats 4000000 in
theorem toBundle_any (pb po : Nat) (s0 s1 s2 s3 s4 : ByteArray) (ca : Option Addr) (cl cc : Nat) (C : Nat → ByteArray) (fa : Option Addr) (fl fc : Nat) (F : Nat → FileR) (w : World)
    (h : ManAt w pb po s0 s1 s2 s3 s4 ca cl cc C fa fl fc F) (hcl : cl ≤ 1048576) (hfl : fl ≤ 1048576) :
    Calls Try.prog 12 #[.pointer (some ⟨pb, po, none⟩)] w fun e w' => ∃ (nb : Nat) (ca' : Option Addr) (cc' : Nat) (fa' : Option Addr) (fc' : Nat), e = .returned (.pointer (some ⟨nb, 0, none⟩)) ∧ ManAt w' nb 0 s0 s1 s2 s3 s4 ca' cl cc' C fa' fl fc' F ∧ Below w.heap.size w w' := by
  have HM : Hid (ManAt w pb po s0 s1 s2 s3 s4 ca cl cc C fa fl fc F) := h
  have c5 := h.c5
  clear h
  have hq1 : ∀ w, (binOp .neq 26 (.slice ca cl cc) (.slice none 0 0)).run Try.prog w = .ok (.bool (!ca.isNone)) w := fun w => run_neq_slice_nil_any (P := Try.prog) w 26 9 ca cl cc 0 0 Try.underlying26
  have hq2 : ∀ w, (binOp .neq 25 (.slice fa fl fc) (.slice none 0 0)).run Try.prog w = .ok (.bool (!fa.isNone)) w := fun w => run_neq_slice_nil_any (P := Try.prog) w 25 45 fa fl fc 0 0 Try.underlying25
  go_enter Try.func12, Try.ntmps12
  go_upto_if 14 with fail
  go_cut [3] (fun s wx => ∃ a' c', s = .slice a' cl c' ∧ Below w.heap.size w wx ∧ Hid (RowS wx a' cl C))
  case first =>
    cases ca with
    | none =>
      have h0 : cl = 0 := rowS_none HM.out.C
      subst h0
      go_wp2
      go_meet
      case rel => exact ⟨_, _, rfl, Below.refl w.heap.size w, HM.out.C⟩
    | some x =>
      have hmk := make_run cl hcl
      go_wp2
      go_loopg [4] cl (fun g t wx => ∃ (i : Nat) (A : Array Value), t = .int .i64 i ∧ g = cl - i ∧ i ≤ cl ∧ w.alloc (.cells A 9) = wx ∧ A.size = cl ∧ Hid (∀ j, j < i → A[j]? = some (.string (C j))))
      case atStart => exact ⟨0, _, rfl, rfl, Nat.zero_le _, rfl, size_madeCells _ _, fun j hj => absurd hj (Nat.not_lt_zero j)⟩
      case round =>
        obtain ⟨i, A, rfl, hg, hi, rfl, hA, HA⟩ := hrel
        have HG : Hid (gk = cl - i) := hg
        have HAs : Hid (A.size = cl) := hA
        clear hg hA hmk hq1 hq2
        by_cases hlt : i < cl
        · obtain ⟨⟨b, off, ex, hc⟩, hs⟩ := HM.out.C i hlt
          have ex := Option.some.inj ex
          subst ex
          have hb := World.block_lt_of_cell? _ _ hc
          have hpb := World.block_lt_of_cell? _ _ c5
          obtain ⟨vi, hvi⟩ : ∃ vi, A[i]? = some vi := ⟨_, Array.getElem?_eq_getElem (by rw [HAs.out]; exact hlt)⟩
          go_wp2
          go_roundg (cl - (i + 1))
          case rel => exact ⟨i + 1, A.setIfInBounds i (.string (C i)), by go_num, rfl, by omega, rfl, by rw [Array.size_setIfInBounds]; exact HAs.out, set_upto HA.out (by rw [HAs.out]; exact hlt)⟩
          case measure => rw [HG.out]; omega
        · have hpb := World.block_lt_of_cell? _ _ c5
          have hic : i = cl := by omega
          have HA2 : Hid (∀ j, j < cl → A[j]? = some (.string (C j))) := by rw [← hic]; exact HA.out
          clear hic
          go_wp2
          go_meet
          case rel => exact ⟨_, _, rfl, below1 w _, rowS_block HA2.out (fun i hi => (HM.out.C i hi).2)⟩
  case rest =>
    obtain ⟨a1, k1, rfl, B1, A1⟩ := hcut
    have HM1 : Hid (ManAt wc pb po s0 s1 s2 s3 s4 ca cl cc C fa fl fc F) := HM.out.later B1
    have c6 := HM1.out.c6
    clear hq1 c5
    go_upto_if 44 with fail
    go_cut [5] (fun s wx => ∃ a' c', s = .slice a' fl c' ∧ Below wc.heap.size wc wx ∧ Hid (RowF wx a' fl F) ∧ fl ≤ c')
    case first =>
      cases fa with
      | none =>
        have h0 : fl = 0 := rowF_none HM1.out.F
        subst h0
        go_wp2
        go_meet
        case rel => exact ⟨_, _, rfl, Below.refl wc.heap.size wc, HM1.out.F, Nat.le_refl _⟩
      | some x =>
        have hmk := make_runF fl hfl
        have hpb := World.block_lt_of_cell? _ _ c6
        go_wp2
        go_loopg [6] fl (fun g t wx => ∃ (i : Nat) (A : Array Value), t = .int .i64 i ∧ g = fl - i ∧ i ≤ fl ∧ wx.heap[wc.heap.size]? = some (.cells A 63 (0, 0)) ∧ A.size = fl * 4 ∧ Below wc.heap.size wc wx ∧ Hid (∀ j, j < i → FileIn A j (F j)))
        case atStart => exact ⟨0, _, rfl, rfl, Nat.zero_le _, heap_alloc_at _ _, size_madeCells _ _, below1 _ _, fun j hj => absurd hj (Nat.not_lt_zero j)⟩
        case round =>
          obtain ⟨i, A, rfl, hg, hi, hblk, hA, hbel, HA⟩ := hrel
          have HG : Hid (gk = fl - i) := hg
          have HAs : Hid (A.size = fl * 4) := hA
          have HBk : Hid (wr.heap[wc.heap.size]? = some (.cells A 63 (0, 0))) := hblk
          have HBl : Hid (Below wc.heap.size wc wr) := hbel
          have HMr : Hid (ManAt wr pb po s0 s1 s2 s3 s4 ca cl cc C (some x) fl fc F) := HM1.out.later hbel
          have d6 := HMr.out.c6
          have hpb2 := World.block_lt_of_cell? _ _ d6
          have hfb : wc.heap.size < wr.heap.size := (Array.getElem?_eq_some_iff.1 hblk).1
          have hfz : ∀ o, wr.frozen? ⟨wc.heap.size, o, none⟩ = false := fun o => by simp [World.frozen?, hblk]
          have hcell : ∀ o, wr.cell? ⟨wc.heap.size, o, none⟩ = A[o]? := fun o => cell_of_row wr wc.heap.size o A 63 (0, 0) hblk
          clear hg hA hblk hbel hmk hq2
          by_cases hlt : i < fl
          · obtain ⟨⟨b, off, ex, f0, f1, f2, f3⟩, hs, ht⟩ := HMr.out.F i hlt
            have ex := Option.some.inj ex
            subst ex
            have hb := World.block_lt_of_cell? _ _ f0
            obtain ⟨x0, g0⟩ : ∃ x0, wr.cell? ⟨wc.heap.size, i * 4, none⟩ = some x0 := ⟨_, (hcell _).trans (Array.getElem?_eq_getElem (by rw [HAs.out]; omega))⟩
            obtain ⟨x1, g1⟩ : ∃ x0, wr.cell? ⟨wc.heap.size, i * 4 + 1, none⟩ = some x0 := ⟨_, (hcell _).trans (Array.getElem?_eq_getElem (by rw [HAs.out]; omega))⟩
            obtain ⟨x2, g2⟩ : ∃ x0, wr.cell? ⟨wc.heap.size, i * 4 + 2, none⟩ = some x0 := ⟨_, (hcell _).trans (Array.getElem?_eq_getElem (by rw [HAs.out]; omega))⟩
            obtain ⟨x3, g3⟩ : ∃ x0, wr.cell? ⟨wc.heap.size, i * 4 + 3, none⟩ = some x0 := ⟨_, (hcell _).trans (Array.getElem?_eq_getElem (by rw [HAs.out]; omega))⟩
            clear hcell
            go_wp2
            go_roundg (fl - (i + 1))
            case rel =>
              have hfs := four_stores (i := i) (f := F i) (.cells #[.string (F i).path, .string (F i).sha, .int .i64 (F i).size, .int .u32 (F i).mode] 45) HBk.out HBl.out
              exact ⟨i + 1, putF A i (F i), by go_num, rfl, by omega, hfs.1, by rw [putF_size]; exact HAs.out, hfs.2, fileIn_put HA.out HAs.out hlt⟩
            case measure => rw [HG.out]; omega
          · have hif : i = fl := by omega
            have HA2 : Hid (∀ j, j < fl → FileIn A j (F j)) := by rw [← hif]; exact HA.out
            clear hif hcell
            go_wp2
            go_meet
            case rel => exact ⟨_, _, rfl, HBl.out, rowF_block HBk.out HA2.out (fun i hi => (HMr.out.F i hi).2), Nat.le_refl _⟩
    case rest =>
      obtain ⟨a2, k2, rfl, B2, A2, hk2⟩ := hcut
      have B3 : Hid (Below w.heap.size w wc) := B1.trans (B2.mono B1.size)
      have R1 : Hid (RowS wc a1 cl C) := A1.out.later B2
      have R2 : Hid (RowF wc a2 fl F) := A2
      have HM2 : Hid (ManAt wc pb po s0 s1 s2 s3 s4 ca cl cc C fa fl fc F) := HM1.out.later B2
      clear HM HM1 B1 B2 A1 A2 hq2 c6
      have e0 := HM2.out.c0
      have e1 := HM2.out.c1
      have e2 := HM2.out.c2
      have e3 := HM2.out.c3
      have e4 := HM2.out.c4
      go_wp2_with fail
      go_region_held3 (fun w' => w'.cell? ⟨pb, po, none⟩ = some (.string s0) ∧ w'.cell? ⟨pb, po + 1, none⟩ = some (.string s1) ∧ w'.cell? ⟨pb, po + 2, none⟩ = some (.string s2) ∧ w'.cell? ⟨pb, po + 3, none⟩ = some (.string s3) ∧ w'.cell? ⟨pb, po + 4, none⟩ = some (.string s4)) (go_keep) (fail)
      go_wp2
      go_ret
      refine ⟨wc.heap.size, a1, k1, a2, k2, rfl, ?_, (B3.out.drew).alloc B3.out.size _⟩
      have bd : Below wc.heap.size wc (wc.drew.alloc (.cells #[.string s0, .string s1, .string s2, .string s3, .string s4, .slice a1 cl k1, .slice a2 fl k2] 60)) := ((Below.refl _ _).drew).alloc (Nat.le_refl _) _
      exact ⟨cell_new_drew wc _ 60 0 _ rfl, cell_new_drew wc _ 60 1 _ rfl, cell_new_drew wc _ 60 2 _ rfl, cell_new_drew wc _ 60 3 _ rfl, cell_new_drew wc _ 60 4 _ rfl, cell_new_drew wc _ 60 5 _ rfl, cell_new_drew wc _ 60 6 _ rfl, HM2.out.z, R1.out.later bd, R2.out.later bd, hk2⟩

end Go.Proofs.Qxb6603865a
