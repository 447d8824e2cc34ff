import Derived.Test.Qxb6603865aDiffMem
import Derived.Deep.RegionLaw
namespace Go.Proofs.Qxb6603865a
open Go.RowKit

set_option maxRecDepth 8000 in
set_option maxHeartbeats 800000 in
theorem diff_nil (fp : Option Addr) (bl : Nat) (B : Nat → ByteArray) (nb : Nat) (F : Nat → FileR) (pb po : Nat) (s0 s1 s2 s3 s4 : ByteArray) (ca : Option Addr) (cl cc : Nat) (C : Nat → ByteArray) (fa : Option Addr) (na fc : Nat) (G : Nat → FileR) (w : World)
    (hf : FromAt w fp bl B nb F) (h : ManAt w pb po s0 s1 s2 s3 s4 ca cl cc C fa na fc G) (hbl : bl ≤ 1048576) (hnb : nb ≤ 1048576) (hnb0 : Hid (nb = 0)) (hcl : cl ≤ 1048576) (hna : na ≤ 1048576) (total : List (Int × ByteArray)) (ht : Hid (diffT ltS F G nb na 0 0 = total)) :
    Calls Try.prog 11 #[.pointer fp, .pointer (some ⟨pb, po, none⟩)] w fun e w' => ∃ (v : Value) (r : Bool), e = .returned (.agg #[v, .bool (!r)]) ∧ Hid (r = true ↔ EqS bl cl B C) ∧ w'.ownsRow w.heap.size 39 2 v total.length (flatD total) ∧ Hid (total = [] → v = .slice none 0 0) ∧ Below w.heap.size w w' := by
  obtain ⟨ti, hi, hz0, hz1, hz2⟩ := info_parts info39
  have HM : Hid (ManAt w pb po s0 s1 s2 s3 s4 ca cl cc C fa na fc G) := h
  have HF : Hid (FromAt w fp bl B nb F) := hf
  clear h hf
  go_enter Try.func11, Try.ntmps11
  go_upto_if 10 with fail
  go_cut [5, 6] (fun s t wx => ∃ a1 k1 a2 k2 nq, s = .slice a1 nb k1 ∧ t = .slice a2 bl k2 ∧ (w.alloc (.cells #[.slice none 0 0, .bool false] 32)).drewN nq = wx ∧ Hid (RowF w a1 nb F) ∧ Hid (RowS w a2 bl B) ∧ nb ≤ k1)
  case first =>
    rcases HF.out with ⟨hfp, hbl0, hnb0⟩ | ⟨qb, qo, t0, t1, t2, t3, t4, da, dc, ga, gc, hfp, hman⟩
    · subst hfp hbl0 hnb0
      go_wp2
      go_meet
      case rel => exact ⟨_, _, _, _, 0, rfl, rfl, rfl, rowF_zero _ _ _, fun i hi => absurd hi (Nat.not_lt_zero i), Nat.le_refl _⟩
    · subst hfp
      have d5 := hman.c5
      have d6 := hman.c6
      have HN : Hid (ManAt w qb qo t0 t1 t2 t3 t4 da bl dc B ga nb gc F) := hman
      have hqb := World.block_lt_of_cell? _ _ d5
      clear hman HF
      go_wp2
      go_quiet (fail)
      go_wp2
      go_meet
      case rel => exact ⟨_, _, _, _, _, rfl, rfl, rfl, HN.out.F, HN.out.C, HN.out.k⟩
  case rest =>
    obtain ⟨a1, k1, a2, k2, nq, rfl, rfl, rfl, RF, RS, hk1⟩ := hcut
    have e5 := HM.out.c5
    have e6 := HM.out.c6
    have hpb := World.block_lt_of_cell? _ _ e5
    go_wp2_with fail
    refine (sameArgv_any a2 ca bl k2 cl cc B C _ ((RS.out.later (below1 w _)).drewN nq) ((HM.out.C.later (below1 w _)).drewN nq) hbl hcl).mono ?_
    rintro _ _ ⟨r, rfl, hr, nq2, rfl⟩
    go_wp2
    go_loopg [5, 7] (nb + na) (fun g s t wr => DRel F G nb na total w r g s t wr)
    case atStart => exact ⟨0, nb, 0, na, [], .slice none 0 0, a1, k1, fa, fc, rfl, rfl, rfl, by omega, by omega, ⟨bel0 w nq nq2 _ _, rbox0 w _ _ _, box0 w _ _ _, World.ownsRow_nil _ _ _ _, fun _ => rfl⟩, rowF_id RF.out, rowF_id HM.out.F, Nat.zero_le _, ht, hk1, HM.out.k⟩
    case round =>
      obtain ⟨i, p, j, q, D, v, a1, k1, a2, k2, rfl, rfl, hg, hip, hjq, hds, RB, RA, hD, HT, hk1, hk2⟩ := hrel
      have HG : Hid (gk = p + q) := hg
      have DS : Hid (DSt w wr v r D) := hds
      have HIP : Hid (i + p = nb) := hip
      have HJQ : Hid (j + q = na) := hjq
      have HK : Hid (p ≤ k1 ∧ q ≤ k2) := ⟨hk1, hk2⟩
      have HD : Hid (D.length ≤ i + j) := hD
      have hDn : D.length ≤ 2097152 := by omega
      have hnv := hds.own.lt
      have nv1 : Hid (v.ownBlock ≠ some (w.heap.size + 1)) := fun e => by have := (hnv _ e).1; omega
      have nvb : Hid (∀ k, k < w.heap.size → v.ownBlock ≠ some k) := fun k hk e => by have := (hnv _ e).1; omega
      have hlt := hds.lt
      obtain ⟨v0, v1⟩ := hds.cell
      have hfz := hds.warm 0
      clear hg hip hjq hds hnv ht hD hk1 hk2 e5 e6 hpb
      cases p with
      | zero =>
        cases q with
        | zero =>
          obtain ⟨sa, sn, sc, hv⟩ := ownsRow_form DS.out.own
          subst hv
          have HTd : Hid (D = total) := by
            have := HT.out
            rw [diffT_done ltS F G nb na i j (by have := HIP.out; omega) (by have := HJQ.out; omega), List.append_nil] at this
            exact this
          have x0 : wr.cell? ⟨w.heap.size, 0, none⟩ = some (.slice none 0 0) := by rw [cell_of_row wr _ _ _ 32 (0, 0) DS.out.rbox]; rfl
          have x1 : wr.cell? ⟨w.heap.size, 1, none⟩ = some (.bool false) := by rw [cell_of_row wr _ _ _ 32 (0, 0) DS.out.rbox]; rfl
          have y0 : wr.frozen? ⟨w.heap.size, 0, none⟩ = false := by simp [World.frozen?, DS.out.rbox]
          have y1 : wr.frozen? ⟨w.heap.size, 1, none⟩ = false := by simp [World.frozen?, DS.out.rbox]
          clear HT
          go_wp2
          have e := HTd.out
          subst e
          (try simp only [Exit.inBlock, Exit.then])
          refine bodyPost_ret (v := .agg #[.slice sa sn sc, .bool (!r)]) ?_ rfl ?_
          · simp [results, Try.results11, go_sem, *]
          exact ⟨.slice sa sn sc, r, rfl, hr, ownsRow_low2 (ownsRow_setCell_below (ownsRow_setCell_below DS.out.own (by show w.heap.size < _; omega) _) (by show w.heap.size < _; omega) _), DS.out.nil, (DS.out.bel.setCell (Nat.le_refl _) _).setCell (Nat.le_refl _) _⟩
        | succ q =>
          obtain ⟨c, o2, ha2, hc, g0, g1, g3⟩ := rowF_first RA.out DS.out.bel
          subst ha2
          have HT2 : Hid (D ++ [(1, (G j).path)] ++ diffT ltS F G nb na i (j + 1) = total) := by
            have := HT.out
            rw [diffT_added ltS F G nb na i j (by have := HJQ.out; omega) (.inl (by have := HIP.out; omega)) (.inl (by have := HIP.out; omega))] at this
            rw [← this, List.append_assoc]
            rfl
          clear HT
          have hq0 : ((q : Int) + 1 == 0) = false := by rw [beq_eq_false_iff_ne]; omega
          have hq1 : (0 : Int) < (q : Int) + 1 := by omega
          go_wp2_with fail
          go_quiet (fail)
          go_wp2_with fail
          go_quiet (fail)
          try simp only [World.drewN_drewN]
          generalize hWe : wr.drewN _ = W
          have DS2 : Hid (DSt w W v r D) := by rw [← hWe]; exact DS.out.drewN _
          have g0 : W.cell? ⟨c, o2, none⟩ = some (.string (G j).path) := by rw [← hWe]; exact g0
          have g1 : W.cell? ⟨c, o2 + 1, none⟩ = some (.string (G j).sha) := by rw [← hWe]; exact g1
          have g3 : W.cell? ⟨c, o2 + 3, none⟩ = some (.int .u32 (G j).mode) := by rw [← hWe]; exact g3
          have hltW := DS2.out.lt
          have V0 := DS2.out.cell.1
          have hfzW := DS2.out.warm 0
          clear hWe v0 v1 hfz hlt
          go_wp2_with fail
          go_region_law ((refine step_append_lies _ (by rfl) _ _ _ (by rfl) (w.heap.size + 2) 39 ti _ 2 24 Try.underlying30 hi hz0 hz1 hz2 rfl (by omega) v D.length (flatD D) (by rfl) ((DS2.out.own.alloc _).drew) ⟨W.heap.size, 0, none⟩ 1 1 [.int .i64 1, .string (G j).path] (by rfl) (by rfl) (World.news_of_block (cs := #[.int .i64 1, .string (G j).path]) (t := 39) (fr := (0, 0)) (heap_alloc_new W _)) (one_pair _ _) (by omega) (by unfold maxLen; omega) (by omega) (by simp; omega) (W.heap.size + 1) (by simp) ?_; intro gg cap w1 hown1 hgrow hat hlt1; have hfz1 : w1.frozen? ⟨w.heap.size + 1, 0, none⟩ = false := (hgrow.frozen_far _ (by simp; omega) (Ne.symm nv1.out)).trans (fz_alloc hfzW (by omega)); have hcl1 : w1.cell? ⟨w.heap.size + 1, 0, none⟩ = some v := (hgrow.cell_far _ (by simp; omega) (Ne.symm nv1.out)).trans (cl_alloc V0 (by omega))))
          all_goals go_wp2
          all_goals
            go_roundg (0 + q)
            case rel => exact ⟨i, 0, j + 1, q, D ++ [(1, (G j).path)], _, a1, k1, _, _, rfl, rfl, rfl, (by have := HIP.out; omega), (by have := HJQ.out; omega), DS2.out.appended (1, (G j).path) ⟨_, rfl⟩ hown1 hgrow, RB, rowF_cut RA.out _ (fun hq => by first | rfl | (exfalso; have := HK.out.2; omega)), (by rw [List.length_append]; have := HD.out; simp; omega), HT2, Nat.zero_le _, (by have := HK.out.2; omega)⟩
            case measure => rw [HG.out]; omega
      | succ p =>
        exact absurd HIP.out (by have := hnb0.out; omega)

end Go.Proofs.Qxb6603865a
