import Derived.Test.Qxb6603865aBytes3
import Derived.Test.Qxb6603865aCopy
import Derived.Deep.CutBlock
import Derived.Deep.DeepCutAuto
namespace Go.Proofs.Qxb6603865a
open Go.RowKit

theorem eqS_refl {n : Nat} {g : Nat → ByteArray} : EqS n n g g := ⟨rfl, fun _ _ => rfl⟩
theorem eqS_symm {n m : Nat} {g h : Nat → ByteArray} (e : EqS n m g h) : EqS m n h g := ⟨e.1.symm, fun i hi => (e.2 i (by rw [e.1]; exact hi)).symm⟩
theorem eqS_trans {n m k : Nat} {f g h : Nat → ByteArray} (e : EqS n m f g) (e' : EqS m k g h) : EqS n k f h := ⟨e.1.trans e'.1, fun i hi => (e.2 i hi).trans (e'.2 i (by rw [← e.1]; exact hi))⟩

set_option maxRecDepth 4000 in
set_option maxHeartbeats 2000000 in
theorem equiv_is (a b c : Option Addr) (la lb lc ca cb cc : Nat) (ga gb gc : Nat → ByteArray) (w : World) (ha : RowS w a la ga) (hb : RowS w b lb gb) (hc : RowS w c lc gc) (ka : la ≤ maxLen) (kb : lb ≤ maxLen) (kc : lc ≤ maxLen) :
    Calls Try.prog 7 #[.slice a la ca, .slice b lb cb, .slice c lc cc] w fun e w' => e = .returned (.bool true) ∧ Below w.heap.size w w' := by
  have HA : Hid (RowS w a la ga) := ha
  have HB : Hid (RowS w b lb gb) := hb
  have HC : Hid (RowS w c lc gc) := hc
  clear ha hb hc
  go_enter Try.func7, Try.ntmps7
  go_wp2_with fail
  refine (bytes3_any a b c la lb lc ca cb cc ga gb gc w HA.out HB.out HC.out ka kb kc).mono ?_
  rintro _ _ ⟨⟨r, rfl, hr⟩, rfl⟩
  cases r
  · clear hr
    go_wp2
    go_ret
    exact ⟨rfl, Below.refl _ _⟩
  · obtain ⟨la', lb', lc'⟩ := hr rfl
    clear hr ka kb kc
    have hq1 : ∀ w, (binOp .neq 26 (.slice a la ca) (.slice none 0 0)).run Try.prog w = .ok (.bool (!a.isNone)) w := fun w => run_neq_slice_nil_any (P := Try.prog) w 26 9 a la ca 0 0 Try.underlying26
    have hq2 : ∀ w, (binOp .neq 26 (.slice b lb cb) (.slice none 0 0)).run Try.prog w = .ok (.bool (!b.isNone)) w := fun w => run_neq_slice_nil_any (P := Try.prog) w 26 9 b lb cb 0 0 Try.underlying26
    have hq3 : ∀ w, (binOp .neq 26 (.slice c lc cc) (.slice none 0 0)).run Try.prog w = .ok (.bool (!c.isNone)) w := fun w => run_neq_slice_nil_any (P := Try.prog) w 26 9 c lc cc 0 0 Try.underlying26
    go_upto_if 22 with fail
    go_cut [0] (fun s wx => ∃ a' c', s = .slice a' la c' ∧ Below w.heap.size w wx ∧ Hid (RowS wx a' la ga))
    case first =>
      cases a with
      | none =>
        go_wp2
        go_meet
        case rel => exact ⟨_, _, rfl, (Below.refl w.heap.size w), HA.out⟩
      | some x =>
        have hmk := make_run la la'
        have hcp : ∀ ty, (Builtin.copy_ #[26, 26] ty #[.slice (some ⟨w.heap.size, 0, none⟩) la la, .slice (some x) la ca]).run Try.prog (w.alloc (.cells (madeCells #[.string ByteArray.empty] la) 9)) = .ok (goInt la) (w.alloc (.cells (strsL ga la).toArray 9)) := fun ty => copy_run w x la ca ty ga HA.out
        go_wp2
        go_meet
        case rel => exact ⟨_, _, rfl, (Below.refl w.heap.size w).alloc (Below.refl w.heap.size w).size _, rowS_new w la ga (fun i hi => (HA.out i hi).2)⟩
    case rest =>
      obtain ⟨a1, c1, rfl, B1, A1⟩ := hcut
      have HB1 : Hid (RowS wc b lb gb) := HB.out.later B1
      have HC1 : Hid (RowS wc c lc gc) := HC.out.later B1
      clear HA HB HC hq1
      go_upto_if 31 with fail
      go_cut [1] (fun s wx => ∃ a' c', s = .slice a' lb c' ∧ Below w.heap.size w wx ∧ Hid (RowS wx a' lb gb) ∧ Hid (RowS wx a1 la ga) ∧ Hid (RowS wx c lc gc))
      case first =>
        cases b with
        | none =>
          go_wp2
          go_meet
          case rel => exact ⟨_, _, rfl, B1, HB1.out, A1, HC1⟩
        | some x =>
          have hmk := make_run lb lb'
          have hcp : ∀ ty, (Builtin.copy_ #[26, 26] ty #[.slice (some ⟨wc.heap.size, 0, none⟩) lb lb, .slice (some x) lb cb]).run Try.prog (wc.alloc (.cells (madeCells #[.string ByteArray.empty] lb) 9)) = .ok (goInt lb) (wc.alloc (.cells (strsL gb lb).toArray 9)) := fun ty => copy_run wc x lb cb ty gb HB1.out
          go_wp2
          go_meet
          case rel => exact ⟨_, _, rfl, B1.alloc B1.size _, rowS_new wc lb gb (fun i hi => (HB1.out i hi).2), (A1.out.later (below1 _ _)), (HC1.out.later (below1 _ _))⟩
      case rest =>
        clear A1 HB1 HC1 B1 hq2
        obtain ⟨b1, c2, rfl, B1, A2, A1, HC1⟩ := hcut
        go_upto_if 40 with fail
        go_cut [2] (fun s wx => ∃ a' c', s = .slice a' lc c' ∧ Below w.heap.size w wx ∧ Hid (RowS wx a' lc gc) ∧ Hid (RowS wx a1 la ga) ∧ Hid (RowS wx b1 lb gb))
        case first =>
          cases c with
          | none =>
            go_wp2
            go_meet
            case rel => exact ⟨_, _, rfl, B1, HC1.out, A1, A2⟩
          | some x =>
            have hmk := make_run lc lc'
            have hcp : ∀ ty, (Builtin.copy_ #[26, 26] ty #[.slice (some ⟨wc.heap.size, 0, none⟩) lc lc, .slice (some x) lc cc]).run Try.prog (wc.alloc (.cells (madeCells #[.string ByteArray.empty] lc) 9)) = .ok (goInt lc) (wc.alloc (.cells (strsL gc lc).toArray 9)) := fun ty => copy_run wc x lc cc ty gc HC1.out
            go_wp2
            go_meet
            case rel => exact ⟨_, _, rfl, B1.alloc B1.size _, rowS_new wc lc gc (fun i hi => (HC1.out i hi).2), (A1.out.later (below1 _ _)), (A2.out.later (below1 _ _))⟩
        case rest =>
          clear A1 A2 HC1 B1 hq3
          obtain ⟨d1, c3, rfl, B1, A3, A1, A2⟩ := hcut
          go_wp2_with fail
          refine (argvSize_any _ _ _ _ ga _ A1.out (by omega) (by omega) la').mono ?_
          rintro _ _ ⟨m1, rfl, hm1, rfl⟩
          go_wp2_with fail
          refine (argvSize_any _ _ _ _ gb _ A2.out hm1.1 hm1.2 lb').mono ?_
          rintro _ _ ⟨m2, rfl, hm2, rfl⟩
          go_wp2_with fail
          refine (argvSize_any _ _ _ _ gc _ A3.out hm2.1 hm2.2 lc').mono ?_
          rintro _ _ ⟨m3, rfl, hm3, rfl⟩
          by_cases hbig : 1048576 < m3
          · go_wp2
            go_ret
            exact ⟨rfl, B1⟩
          · go_wp2_with fail
            refine (zzSameArgv_any _ _ _ _ _ _ ga ga _ A1.out A1.out la' la').mono ?_
            rintro _ _ ⟨r1, rfl, e1, k1, rfl⟩
            go_wp2_with fail
            refine (zzSameArgv_any _ _ _ _ _ _ ga gb _ (A1.out.drewN _) (A2.out.drewN _) la' lb').mono ?_
            rintro _ _ ⟨r2, rfl, e2, k2, rfl⟩
            go_wp2_with fail
            refine (zzSameArgv_any _ _ _ _ _ _ gb ga _ (A2.out.drewN _) (A1.out.drewN _) lb' la').mono ?_
            rintro _ _ ⟨r3, rfl, e3, k3, rfl⟩
            go_wp2_with fail
            refine (zzSameArgv_any _ _ _ _ _ _ gb gc _ (A2.out.drewN _) (A3.out.drewN _) lb' lc').mono ?_
            rintro _ _ ⟨r4, rfl, e4, k4, rfl⟩
            go_wp2_with fail
            refine (zzSameArgv_any _ _ _ _ _ _ ga gc _ (A1.out.drewN _) (A3.out.drewN _) la' lc').mono ?_
            rintro _ _ ⟨r5, rfl, e5, k5, rfl⟩
            have t1 : Hid (r1 = true) := e1.out.2 eqS_refl
            have t2 : Hid (r3 = r2) := by
              show r3 = r2
              rw [Bool.eq_iff_iff, e3.out, e2.out]
              exact ⟨eqS_symm, eqS_symm⟩
            have t3 : Hid (r2 = true → r4 = true → r5 = true) := fun x y => e5.out.2 (eqS_trans (e2.out.1 x) (e4.out.1 y))
            clear e1 e2 e3 e4 e5
            have t1 := t1.out
            subst t1
            have t2 := t2.out
            subst t2
            cases r3 <;> cases r4 <;> cases r5
            all_goals first
              | exact absurd (t3.out rfl rfl) (by decide)
              | (go_wp2; go_ret; exact ⟨rfl, below_drewN B1 _⟩)

end Go.Proofs.Qxb6603865a
