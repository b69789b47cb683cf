/- The law: the walk through it. -/
import Derived.Test.YtpkfdbhpmhahaaaGreatDoorGf
namespace Go.Proofs.YtpkfdbhpmhahaaaGreatDoor
open Go Go.RowKit
set_option linter.unusedSimpArgs false
set_option linter.unusedVariables false

set_option maxRecDepth 100000 in
set_option maxHeartbeats 16000000 in
theorem law (can : Bool) (x y : T) (L : Nat) (vx vy : Value) (w : World) (hx : VAt w L x vx) (hy : VAt w L y vy) (hL : L ≤ w.heap.size) (hT : Tabs w) : Calls Tryz.prog 3 #[vx, vy, .bool can] w (fun e w' => e = .returned (.bool true) ∧ Below w.heap.size w w') := by
  have HX := Lib.hid hx
  have HY := Lib.hid hy
  obtain ⟨K, t, m, n, b, h, bv, kv, rfl⟩ : ∃ K t m n b h bv kv, vx = .agg (vcells K t m n b h bv kv) := by
    cases hx
    exact ⟨_, _, _, _, _, _, _, _, rfl⟩
  obtain ⟨K2, t2, m2, n2, b2, h2, bv2, kv2, rfl⟩ : ∃ K t m n b h bv kv, vy = .agg (vcells K t m n b h bv kv) := by
    cases hy
    exact ⟨_, _, _, _, _, _, _, _, rfl⟩
  have HT := Lib.hid hT
  clear hx hy hT
  go_enter Tryz.func3, Tryz.ntmps3
  go_upto_region 1 with fail
  have hA := (Below.heap_alloc (w.alloc (.cells (vcells K t m n b h bv kv) 26)) (.cells (vcells K2 t2 m2 n2 b2 h2 bv2 kv2) 26) w.heap.size (by simp)).trans (heap_alloc_new w (.cells (vcells K t m n b h bv kv) 26))
  have hB := heap_alloc2_new w (.cells (vcells K t m n b h bv kv) 26) (.cells (vcells K2 t2 m2 n2 b2 h2 bv2 kv2) 26)
  have hb : Below w.heap.size w ((w.alloc (.cells (vcells K t m n b h bv kv) 26)).alloc (.cells (vcells K2 t2 m2 n2 b2 h2 bv2 kv2) 26)) := ((Below.refl w.heap.size w).alloc (Nat.le_refl _) _).alloc (by simp) _
  generalize (w.alloc (.cells (vcells K t m n b h bv kv) 26)).alloc (.cells (vcells K2 t2 m2 n2 b2 h2 bv2 kv2) 26) = W1 at hA hB hb ⊢
  have HTW := Lib.hid (show Two w x y w.heap.size (w.heap.size + 1) _ _ W1 from ⟨hb, hA, hB, by omega⟩)
  have HR1 := Lib.hid (row_range hA)
  have HR2 := Lib.hid (row_range hB)
  have hi1 : (Tryz.prog.info? 26).map (·.size) = some (vcells K t m n b h bv kv).toList.length := info26l
  have hi2 : (Tryz.prog.info? 26).map (·.size) = some (vcells K2 t2 m2 n2 b2 h2 bv2 kv2).toList.length := info26l
  have HI := Lib.hid (And.intro hi1 hi2)
  clear hA hB hb hi1 hi2
  have HZ1 := Lib.hid (show Zq x (vcells K t m n b h bv kv).toList.toArray by rw [Array.toArray_toList]; exact zq HX.out)
  have HZ2 := Lib.hid (show Zq y (vcells K2 t2 m2 n2 b2 h2 bv2 kv2).toList.toArray by rw [Array.toArray_toList]; exact zq HY.out)
  go_cut [23] from 16 to 23 (fun v wx => ∃ r : Bool, v = .bool r ∧ Hid (Below W1.heap.size W1 wx ∧ (r = false → (docK x).length ≤ 2147483647 ∧ (docK y).length ≤ 2147483647)))
  case first =>
    go_wp2_with (first | ((with_reducible refine wpList_at (some 16) ?_); refine wpList_load_mid rfl 26 (.tmp 3) rfl w.heap.size 0 rfl (vcells K t m n b h bv kv).toList _ HR1.out Tryz.underlying26 rfl HI.out.1 ?_) | ((with_reducible refine wpList_at (some 20) ?_); refine wpList_load_mid_g (by rfl) 26 (.tmp 4) rfl (w.heap.size + 1) 0 rfl (vcells K2 t2 m2 n2 b2 h2 bv2 kv2).toList _ (rangeAt_kept HR2.out (H3.out.1.block _ (lt_of_heap HTW.out.h2))) Tryz.underlying26 rfl HI.out.2 ?_) | (go_at_call 4; refine ((show Hid (Zq _ _) by assumption).out.out _).mono ?_; rintro e3 w3 ⟨r3, rfl, hq, hb3⟩; (first | (have H4 := Lib.hid (And.intro (below_tr H3.out.1 hb3) hq)) | (have H3 := Lib.hid (And.intro hb3 hq))); clear hq hb3; cases r3))
    all_goals go_meet
    all_goals first | exact ⟨_, rfl, Lib.hid ⟨H4.out.1, fun e => by first | (cases e; done) | exact ⟨H3.out.2 (by first | rfl | trivial), H4.out.2 (by first | rfl | trivial)⟩⟩⟩ | exact ⟨_, rfl, Lib.hid ⟨H3.out.1, fun e => by cases e⟩⟩
  case rest =>
  obtain ⟨r, rfl, HB1⟩ := hcut
  cases r with
  | true =>
    have hbz := HTW.out.bel.trans (HB1.out.1.mono HTW.out.bel.size)
    have HBZ := Lib.hid hbz
    clear hbz
    go_wp2
    go_ret
    exact ⟨rfl, HBZ.out⟩
  | false =>
  have HSZ := Lib.hid (HB1.out.2 rfl)
  have hrow := And.intro (fun (W : World) (hb : Below wc.heap.size wc W) => rangeAt_kept HR1.out ((hb.block _ (by have := lt_of_heap HTW.out.h1; have := HB1.out.1.size; omega)).trans (HB1.out.1.block _ (lt_of_heap HTW.out.h1)))) (fun (W : World) (hb : Below wc.heap.size wc W) => rangeAt_kept HR2.out ((hb.block _ (by have := lt_of_heap HTW.out.h2; have := HB1.out.1.size; omega)).trans (HB1.out.1.block _ (lt_of_heap HTW.out.h2))))
  have HROW := Lib.hid hrow
  have hbw : Below w.heap.size w wc := HTW.out.bel.trans (HB1.out.1.mono HTW.out.bel.size)
  have hvx := fun (W : World) (hb : Below wc.heap.size wc W) => show VAt W L x (.agg (vcells K t m n b h bv kv).toList.toArray) by rw [Array.toArray_toList]; exact HX.out.kept (Nat.le_refl _) (fun k hk => (hb.block k (by have := hbw.size; omega)).trans (hbw.block k (by omega)))
  have hvy := fun (W : World) (hb : Below wc.heap.size wc W) => show VAt W L y (.agg (vcells K2 t2 m2 n2 b2 h2 bv2 kv2).toList.toArray) by rw [Array.toArray_toList]; exact HY.out.kept (Nat.le_refl _) (fun k hk => (hb.block k (by have := hbw.size; omega)).trans (hbw.block k (by omega)))
  have HVX := Lib.hid hvx
  have HVY := Lib.hid hvy
  have HLE := Lib.hid (fun (W : World) (hb : Below wc.heap.size wc W) => show L ≤ W.heap.size from by have := hbw.size; have := hb.size; omega)
  have HBW := Lib.hid hbw
  clear hrow hvx hvy hbw
  go_upto_region 3 with fail
  go_cut [7, 8] from 24 to 27 (fun v7 v8 wx => Hid (∃ g1 g2 : Nat, v7 = .pointer (some ⟨g1, 0, none⟩) ∧ v8 = .pointer (some ⟨g2, 0, none⟩) ∧ Pair wc x y g1 g2 wx))
  case first =>
    refine wp_region_noPanic ?_
    refine wp_region_held_drew (S := fun W => Below wc.heap.size wc W) (by kernel_rfl) (below_drew (Below.refl _ _)) (fun hHeld => ?_)
    refine takeH (i := 0) (some 24) (.agg (vcells K t m n b h bv kv).toList.toArray) rfl rfl (by kernel_rfl) (by kernel_rfl) (by kernel_rfl) (fun _ _ _ h => h) (by rfl) (fun W hSw => x_load26 rfl rfl (HROW.out.1 W hSw) HI.out.1) (by assumption) ?_
    try simp only [Act.put, List.setIfInBounds_toArray, List.set_cons_zero, List.set_cons_succ]
    refine takeH (i := 2) (some 26) (.agg (vcells K2 t2 m2 n2 b2 h2 bv2 kv2).toList.toArray) rfl rfl (by kernel_rfl) (by kernel_rfl) (by kernel_rfl) (fun _ _ _ h => h) (by rfl) (fun W hSw => x_load26 rfl rfl (HROW.out.2 W hSw) HI.out.2) (by assumption) ?_
    try simp only [Act.put, List.setIfInBounds_toArray, List.set_cons_zero, List.set_cons_succ]
    refine wpAnyH_ready (rs := [1, 4, 5]) (by kernel_rfl) (by simp) ?_
    refine (AllReadyH.cons rfl (fun K hK => ?_) (AllReadyH.cons rfl (fun K hK => ?_) (AllReadyH.cons rfl (fun K hK => ?_) AllReadyH.nil)))
    · go_simp
      refine (extDocT x L _ _ (HVX.out _ hHeld) (HLE.out _ hHeld)).mono ?_
      rintro e1 w1 ⟨hb1, Ka, ta, ma, na, ba, ha, bsa, bva, kaa, kna, kca, kba, koa, Ca, rfl, hcl1⟩
      have HD1 := Lib.hid hcl1
      have HO1 := Lib.hid (hcl1 w1 (Nat.le_refl _) (fun _ _ => rfl)).v.size.2
      have hbi := hb1
      clear hcl1
      refine hK.out _ _ (below_tr hHeld hbi) (fun hHeld => ?_)
      clear hK K
      try simp only [Act.put, List.setIfInBounds_toArray, List.set_cons_zero, List.set_cons_succ]
      refine wpAnyH_ready (rs := [3, 4, 5]) (by kernel_rfl) (by simp) ?_
      refine (AllReadyH.cons rfl (fun K hK => ?_) (AllReadyH.cons rfl (fun K hK => ?_) (AllReadyH.cons rfl (fun K hK => ?_) AllReadyH.nil)))
      · go_simp
        refine (extDocT y L _ _ (HVY.out _ hHeld) (HLE.out _ hHeld)).mono ?_
        rintro e3 w3 ⟨hb3, Kb, tb, mb, nb, bb, hb', bsb, bvb, kab, knb, kcb, kbb, kob, Cb, rfl, hcl3⟩
        have HD3 := Lib.hid hcl3
        have HO3 := Lib.hid (hcl3 w3 (Nat.le_refl _) (fun _ _ => rfl)).v.size.2
        have hbi := hb3
        clear hcl3
        refine hK.out _ _ (below_tr hHeld hbi) (fun hHeld => ?_)
        clear hK K
        try simp only [Act.put, List.setIfInBounds_toArray, List.set_cons_zero, List.set_cons_succ]
        refine wpAnyH_ready (rs := [4, 5]) (by kernel_rfl) (by simp) ?_
        refine (AllReadyH.cons rfl (fun K hK => ?_) (AllReadyH.cons rfl (fun K hK => ?_) AllReadyH.nil))
        · go_simp
          refine hK.out _ _ (below_tr hHeld ((Below.refl _ _).alloc (Nat.le_refl _) _)) (fun hHeld => ?_)
          clear hK K
          try simp only [Act.put, List.setIfInBounds_toArray, List.set_cons_zero, List.set_cons_succ]
          refine wpAnyH_ready (rs := [5]) (by kernel_rfl) (by simp) ?_
          refine (AllReadyH.cons rfl (fun K hK => ?_) AllReadyH.nil)
          go_simp
          refine hK.out _ _ (below_tr hHeld ((Below.refl _ _).alloc (Nat.le_refl _) _)) (fun hHeld => ?_)
          clear hK K
          try simp only [Act.put, List.setIfInBounds_toArray, List.set_cons_zero, List.set_cons_succ]
          refine wpAnyH_ready (rs := [6]) (by kernel_rfl) (by simp) ?_
          refine (AllReadyH.cons rfl (fun K hK => ?_) AllReadyH.nil)
          refine step_store_row rfl 26 (.tmp 7) (.tmp 25) rfl _ _ rfl rfl 26 Zero26 (by repeat (first | exact heap_alloc_new _ _ | exact heap_alloc2_new _ _ _ | exact hst | refine (Below.heap_alloc _ _ _ (by first | (simp; done) | (simp; omega) | (have q1 := hb1.size; have q3 := hb3.size; simp at q1 q3 ⊢; omega) | (have q1 := hb1.size; have q3 := hb3.size; simp at q1 ⊢; omega))).trans ?_ | refine (hb1.block _ (by first | (simp; done) | (simp; omega) | (have q1 := hb1.size; have q3 := hb3.size; simp at q1 q3 ⊢; omega) | (have q1 := hb1.size; have q3 := hb3.size; simp at q1 ⊢; omega))).trans ?_ | refine (hb3.block _ (by first | (simp; done) | (simp; omega) | (have q1 := hb1.size; have q3 := hb3.size; simp at q1 q3 ⊢; omega) | (have q1 := hb1.size; have q3 := hb3.size; simp at q1 ⊢; omega))).trans ?_)) info26v rfl HO1.out ?_
          refine hK.out _ _ (below_setRow hHeld (by first | (simp; done) | (simp; omega) | (have q1 := hb1.size; have q3 := hb3.size; simp at q1 q3 ⊢; omega) | (have q1 := hb1.size; have q3 := hb3.size; simp at q1 ⊢; omega)) _) (fun hHeld => ?_)
          clear hK K
          try simp only [Act.put, List.setIfInBounds_toArray, List.set_cons_zero, List.set_cons_succ]
          refine wpAnyH_ready (rs := [7]) (by kernel_rfl) (by simp) ?_
          refine (AllReadyH.cons rfl (fun K hK => ?_) AllReadyH.nil)
          refine step_store_row rfl 26 (.tmp 8) (.tmp 27) rfl _ _ rfl rfl 26 Zero26 ((row_other rfl (by first | (simp; done) | (simp; omega) | (have q1 := hb1.size; have q3 := hb3.size; simp at q1 q3 ⊢; omega) | (have q1 := hb1.size; have q3 := hb3.size; simp at q1 ⊢; omega))).trans (by repeat (first | exact heap_alloc_new _ _ | exact heap_alloc2_new _ _ _ | exact hst | refine (Below.heap_alloc _ _ _ (by first | (simp; done) | (simp; omega) | (have q1 := hb1.size; have q3 := hb3.size; simp at q1 q3 ⊢; omega) | (have q1 := hb1.size; have q3 := hb3.size; simp at q1 ⊢; omega))).trans ?_ | refine (hb1.block _ (by first | (simp; done) | (simp; omega) | (have q1 := hb1.size; have q3 := hb3.size; simp at q1 q3 ⊢; omega) | (have q1 := hb1.size; have q3 := hb3.size; simp at q1 ⊢; omega))).trans ?_ | refine (hb3.block _ (by first | (simp; done) | (simp; omega) | (have q1 := hb1.size; have q3 := hb3.size; simp at q1 q3 ⊢; omega) | (have q1 := hb1.size; have q3 := hb3.size; simp at q1 ⊢; omega))).trans ?_))) info26v rfl HO3.out ?_
          refine hK.out _ _ (below_setRow hHeld (by first | (simp; done) | (simp; omega) | (have q1 := hb1.size; have q3 := hb3.size; simp at q1 q3 ⊢; omega) | (have q1 := hb1.size; have q3 := hb3.size; simp at q1 ⊢; omega)) _) (fun hHeld => ?_)
          clear hK K
          try simp only [Act.put, List.setIfInBounds_toArray, List.set_cons_zero, List.set_cons_succ]
          refine wpAnyH_done (by kernel_rfl) ?_ _
          refine NoPanic.normal ?_
          go_wp2
          go_meet
          exact Lib.hid ⟨_, _, rfl, rfl, ⟨hHeld, (by have q1 := hb1.size; have q3 := hb3.size; (try simp at q1); (try simp at q3); (first | omega | (simp; done) | (simp; omega))), ⟨Ka, ta, ma, na, ba, ha, bsa, bva, kaa, kna, kca, kba, koa, Ca, (row_other rfl (by have q1 := hb1.size; have q3 := hb3.size; (try simp at q1); (try simp at q3); (first | omega | (simp; done) | (simp; omega)))).trans (setRow_heap _ _ _ _ _ _ (by repeat (first | exact heap_alloc_new _ _ | exact heap_alloc2_new _ _ _ | exact hst | refine (Below.heap_alloc _ _ _ (by first | (simp; done) | (simp; omega) | (have q1 := hb1.size; have q3 := hb3.size; simp at q1 q3 ⊢; omega) | (have q1 := hb1.size; have q3 := hb3.size; simp at q1 ⊢; omega))).trans ?_ | refine (hb1.block _ (by first | (simp; done) | (simp; omega) | (have q1 := hb1.size; have q3 := hb3.size; simp at q1 q3 ⊢; omega) | (have q1 := hb1.size; have q3 := hb3.size; simp at q1 ⊢; omega))).trans ?_ | refine (hb3.block _ (by first | (simp; done) | (simp; omega) | (have q1 := hb1.size; have q3 := hb3.size; simp at q1 q3 ⊢; omega) | (have q1 := hb1.size; have q3 := hb3.size; simp at q1 ⊢; omega))).trans ?_))), HD1.out _ (by have q1 := hb1.size; have q3 := hb3.size; (try simp at q1); (try simp at q3); (first | omega | (simp; done) | (simp; omega))) (fun k hk => by repeat (first | exact rfl | refine (row_other rfl (by have q1 := hb1.size; have q3 := hb3.size; have qL := HLE.out wc (Below.refl _ _); (try simp at q1); (try simp at q3); (try simp at hk); (first | omega | (simp; done) | (simp; omega)))).trans ?_ | refine (Below.heap_alloc _ _ _ (by have q1 := hb1.size; have q3 := hb3.size; have qL := HLE.out wc (Below.refl _ _); (try simp at q1); (try simp at q3); (try simp at hk); (first | omega | (simp; done) | (simp; omega)))).trans ?_ | refine (hb3.block _ (by have q1 := hb1.size; have q3 := hb3.size; have qL := HLE.out wc (Below.refl _ _); (try simp at q1); (try simp at q3); (try simp at hk); (first | omega | (simp; done) | (simp; omega)))).trans ?_))⟩, ⟨Kb, tb, mb, nb, bb, hb', bsb, bvb, kab, knb, kcb, kbb, kob, Cb, setRow_heap _ _ _ _ _ _ ((row_other rfl (by first | (simp; done) | (simp; omega) | (have q1 := hb1.size; have q3 := hb3.size; simp at q1 q3 ⊢; omega) | (have q1 := hb1.size; have q3 := hb3.size; simp at q1 ⊢; omega))).trans (by repeat (first | exact heap_alloc_new _ _ | exact heap_alloc2_new _ _ _ | exact hst | refine (Below.heap_alloc _ _ _ (by first | (simp; done) | (simp; omega) | (have q1 := hb1.size; have q3 := hb3.size; simp at q1 q3 ⊢; omega) | (have q1 := hb1.size; have q3 := hb3.size; simp at q1 ⊢; omega))).trans ?_ | refine (hb1.block _ (by first | (simp; done) | (simp; omega) | (have q1 := hb1.size; have q3 := hb3.size; simp at q1 q3 ⊢; omega) | (have q1 := hb1.size; have q3 := hb3.size; simp at q1 ⊢; omega))).trans ?_ | refine (hb3.block _ (by first | (simp; done) | (simp; omega) | (have q1 := hb1.size; have q3 := hb3.size; simp at q1 q3 ⊢; omega) | (have q1 := hb1.size; have q3 := hb3.size; simp at q1 ⊢; omega))).trans ?_))), HD3.out _ (by have q1 := hb1.size; have q3 := hb3.size; (try simp at q1); (try simp at q3); (first | omega | (simp; done) | (simp; omega))) (fun k hk => by repeat (first | exact rfl | refine (row_other rfl (by have q1 := hb1.size; have q3 := hb3.size; have qL := HLE.out wc (Below.refl _ _); (try simp at q1); (try simp at q3); (try simp at hk); (first | omega | (simp; done) | (simp; omega)))).trans ?_ | refine (Below.heap_alloc _ _ _ (by have q1 := hb1.size; have q3 := hb3.size; have qL := HLE.out wc (Below.refl _ _); (try simp at q1); (try simp at q3); (try simp at hk); (first | omega | (simp; done) | (simp; omega)))).trans ?_ | refine (hb3.block _ (by have q1 := hb1.size; have q3 := hb3.size; have qL := HLE.out wc (Below.refl _ _); (try simp at q1); (try simp at q3); (try simp at hk); (first | omega | (simp; done) | (simp; omega)))).trans ?_))⟩⟩⟩
        · go_simp
          refine hK.out _ _ (below_tr hHeld ((Below.refl _ _).alloc (Nat.le_refl _) _)) (fun hHeld => ?_)
          clear hK K
          try simp only [Act.put, List.setIfInBounds_toArray, List.set_cons_zero, List.set_cons_succ]
          refine wpAnyH_ready (rs := [4]) (by kernel_rfl) (by simp) ?_
          refine (AllReadyH.cons rfl (fun K hK => ?_) AllReadyH.nil)
          go_simp
          refine hK.out _ _ (below_tr hHeld ((Below.refl _ _).alloc (Nat.le_refl _) _)) (fun hHeld => ?_)
          clear hK K
          try simp only [Act.put, List.setIfInBounds_toArray, List.set_cons_zero, List.set_cons_succ]
          refine wpAnyH_ready (rs := [6]) (by kernel_rfl) (by simp) ?_
          refine (AllReadyH.cons rfl (fun K hK => ?_) AllReadyH.nil)
          refine step_store_row rfl 26 (.tmp 7) (.tmp 25) rfl _ _ rfl rfl 26 Zero26 (by repeat (first | exact heap_alloc_new _ _ | exact heap_alloc2_new _ _ _ | exact hst | refine (Below.heap_alloc _ _ _ (by first | (simp; done) | (simp; omega) | (have q1 := hb1.size; have q3 := hb3.size; simp at q1 q3 ⊢; omega) | (have q1 := hb1.size; have q3 := hb3.size; simp at q1 ⊢; omega))).trans ?_ | refine (hb1.block _ (by first | (simp; done) | (simp; omega) | (have q1 := hb1.size; have q3 := hb3.size; simp at q1 q3 ⊢; omega) | (have q1 := hb1.size; have q3 := hb3.size; simp at q1 ⊢; omega))).trans ?_ | refine (hb3.block _ (by first | (simp; done) | (simp; omega) | (have q1 := hb1.size; have q3 := hb3.size; simp at q1 q3 ⊢; omega) | (have q1 := hb1.size; have q3 := hb3.size; simp at q1 ⊢; omega))).trans ?_)) info26v rfl HO1.out ?_
          refine hK.out _ _ (below_setRow hHeld (by first | (simp; done) | (simp; omega) | (have q1 := hb1.size; have q3 := hb3.size; simp at q1 q3 ⊢; omega) | (have q1 := hb1.size; have q3 := hb3.size; simp at q1 ⊢; omega)) _) (fun hHeld => ?_)
          clear hK K
          try simp only [Act.put, List.setIfInBounds_toArray, List.set_cons_zero, List.set_cons_succ]
          refine wpAnyH_ready (rs := [7]) (by kernel_rfl) (by simp) ?_
          refine (AllReadyH.cons rfl (fun K hK => ?_) AllReadyH.nil)
          refine step_store_row rfl 26 (.tmp 8) (.tmp 27) rfl _ _ rfl rfl 26 Zero26 ((row_other rfl (by first | (simp; done) | (simp; omega) | (have q1 := hb1.size; have q3 := hb3.size; simp at q1 q3 ⊢; omega) | (have q1 := hb1.size; have q3 := hb3.size; simp at q1 ⊢; omega))).trans (by repeat (first | exact heap_alloc_new _ _ | exact heap_alloc2_new _ _ _ | exact hst | refine (Below.heap_alloc _ _ _ (by first | (simp; done) | (simp; omega) | (have q1 := hb1.size; have q3 := hb3.size; simp at q1 q3 ⊢; omega) | (have q1 := hb1.size; have q3 := hb3.size; simp at q1 ⊢; omega))).trans ?_ | refine (hb1.block _ (by first | (simp; done) | (simp; omega) | (have q1 := hb1.size; have q3 := hb3.size; simp at q1 q3 ⊢; omega) | (have q1 := hb1.size; have q3 := hb3.size; simp at q1 ⊢; omega))).trans ?_ | refine (hb3.block _ (by first | (simp; done) | (simp; omega) | (have q1 := hb1.size; have q3 := hb3.size; simp at q1 q3 ⊢; omega) | (have q1 := hb1.size; have q3 := hb3.size; simp at q1 ⊢; omega))).trans ?_))) info26v rfl HO3.out ?_
          refine hK.out _ _ (below_setRow hHeld (by first | (simp; done) | (simp; omega) | (have q1 := hb1.size; have q3 := hb3.size; simp at q1 q3 ⊢; omega) | (have q1 := hb1.size; have q3 := hb3.size; simp at q1 ⊢; omega)) _) (fun hHeld => ?_)
          clear hK K
          try simp only [Act.put, List.setIfInBounds_toArray, List.set_cons_zero, List.set_cons_succ]
          refine wpAnyH_done (by kernel_rfl) ?_ _
          refine NoPanic.normal ?_
          go_wp2
          go_meet
          exact Lib.hid ⟨_, _, rfl, rfl, ⟨hHeld, (by have q1 := hb1.size; have q3 := hb3.size; (try simp at q1); (try simp at q3); (first | omega | (simp; done) | (simp; omega))), ⟨Ka, ta, ma, na, ba, ha, bsa, bva, kaa, kna, kca, kba, koa, Ca, (row_other rfl (by have q1 := hb1.size; have q3 := hb3.size; (try simp at q1); (try simp at q3); (first | omega | (simp; done) | (simp; omega)))).trans (setRow_heap _ _ _ _ _ _ (by repeat (first | exact heap_alloc_new _ _ | exact heap_alloc2_new _ _ _ | exact hst | refine (Below.heap_alloc _ _ _ (by first | (simp; done) | (simp; omega) | (have q1 := hb1.size; have q3 := hb3.size; simp at q1 q3 ⊢; omega) | (have q1 := hb1.size; have q3 := hb3.size; simp at q1 ⊢; omega))).trans ?_ | refine (hb1.block _ (by first | (simp; done) | (simp; omega) | (have q1 := hb1.size; have q3 := hb3.size; simp at q1 q3 ⊢; omega) | (have q1 := hb1.size; have q3 := hb3.size; simp at q1 ⊢; omega))).trans ?_ | refine (hb3.block _ (by first | (simp; done) | (simp; omega) | (have q1 := hb1.size; have q3 := hb3.size; simp at q1 q3 ⊢; omega) | (have q1 := hb1.size; have q3 := hb3.size; simp at q1 ⊢; omega))).trans ?_))), HD1.out _ (by have q1 := hb1.size; have q3 := hb3.size; (try simp at q1); (try simp at q3); (first | omega | (simp; done) | (simp; omega))) (fun k hk => by repeat (first | exact rfl | refine (row_other rfl (by have q1 := hb1.size; have q3 := hb3.size; have qL := HLE.out wc (Below.refl _ _); (try simp at q1); (try simp at q3); (try simp at hk); (first | omega | (simp; done) | (simp; omega)))).trans ?_ | refine (Below.heap_alloc _ _ _ (by have q1 := hb1.size; have q3 := hb3.size; have qL := HLE.out wc (Below.refl _ _); (try simp at q1); (try simp at q3); (try simp at hk); (first | omega | (simp; done) | (simp; omega)))).trans ?_ | refine (hb3.block _ (by have q1 := hb1.size; have q3 := hb3.size; have qL := HLE.out wc (Below.refl _ _); (try simp at q1); (try simp at q3); (try simp at hk); (first | omega | (simp; done) | (simp; omega)))).trans ?_))⟩, ⟨Kb, tb, mb, nb, bb, hb', bsb, bvb, kab, knb, kcb, kbb, kob, Cb, setRow_heap _ _ _ _ _ _ ((row_other rfl (by first | (simp; done) | (simp; omega) | (have q1 := hb1.size; have q3 := hb3.size; simp at q1 q3 ⊢; omega) | (have q1 := hb1.size; have q3 := hb3.size; simp at q1 ⊢; omega))).trans (by repeat (first | exact heap_alloc_new _ _ | exact heap_alloc2_new _ _ _ | exact hst | refine (Below.heap_alloc _ _ _ (by first | (simp; done) | (simp; omega) | (have q1 := hb1.size; have q3 := hb3.size; simp at q1 q3 ⊢; omega) | (have q1 := hb1.size; have q3 := hb3.size; simp at q1 ⊢; omega))).trans ?_ | refine (hb1.block _ (by first | (simp; done) | (simp; omega) | (have q1 := hb1.size; have q3 := hb3.size; simp at q1 q3 ⊢; omega) | (have q1 := hb1.size; have q3 := hb3.size; simp at q1 ⊢; omega))).trans ?_ | refine (hb3.block _ (by first | (simp; done) | (simp; omega) | (have q1 := hb1.size; have q3 := hb3.size; simp at q1 q3 ⊢; omega) | (have q1 := hb1.size; have q3 := hb3.size; simp at q1 ⊢; omega))).trans ?_))), HD3.out _ (by have q1 := hb1.size; have q3 := hb3.size; (try simp at q1); (try simp at q3); (first | omega | (simp; done) | (simp; omega))) (fun k hk => by repeat (first | exact rfl | refine (row_other rfl (by have q1 := hb1.size; have q3 := hb3.size; have qL := HLE.out wc (Below.refl _ _); (try simp at q1); (try simp at q3); (try simp at hk); (first | omega | (simp; done) | (simp; omega)))).trans ?_ | refine (Below.heap_alloc _ _ _ (by have q1 := hb1.size; have q3 := hb3.size; have qL := HLE.out wc (Below.refl _ _); (try simp at q1); (try simp at q3); (try simp at hk); (first | omega | (simp; done) | (simp; omega)))).trans ?_ | refine (hb3.block _ (by have q1 := hb1.size; have q3 := hb3.size; have qL := HLE.out wc (Below.refl _ _); (try simp at q1); (try simp at q3); (try simp at hk); (first | omega | (simp; done) | (simp; omega)))).trans ?_))⟩⟩⟩
      · go_simp
        refine hK.out _ _ (below_tr hHeld ((Below.refl _ _).alloc (Nat.le_refl _) _)) (fun hHeld => ?_)
        clear hK K
        try simp only [Act.put, List.setIfInBounds_toArray, List.set_cons_zero, List.set_cons_succ]
        refine wpAnyH_ready (rs := [3, 5]) (by kernel_rfl) (by simp) ?_
        refine (AllReadyH.cons rfl (fun K hK => ?_) (AllReadyH.cons rfl (fun K hK => ?_) AllReadyH.nil))
        · go_simp
          refine (extDocT y L _ _ (HVY.out _ hHeld) (HLE.out _ hHeld)).mono ?_
          rintro e3 w3 ⟨hb3, Kb, tb, mb, nb, bb, hb', bsb, bvb, kab, knb, kcb, kbb, kob, Cb, rfl, hcl3⟩
          have HD3 := Lib.hid hcl3
          have HO3 := Lib.hid (hcl3 w3 (Nat.le_refl _) (fun _ _ => rfl)).v.size.2
          have hbi := hb3
          clear hcl3
          refine hK.out _ _ (below_tr hHeld hbi) (fun hHeld => ?_)
          clear hK K
          try simp only [Act.put, List.setIfInBounds_toArray, List.set_cons_zero, List.set_cons_succ]
          refine wpAnyH_ready (rs := [5]) (by kernel_rfl) (by simp) ?_
          refine (AllReadyH.cons rfl (fun K hK => ?_) AllReadyH.nil)
          go_simp
          refine hK.out _ _ (below_tr hHeld ((Below.refl _ _).alloc (Nat.le_refl _) _)) (fun hHeld => ?_)
          clear hK K
          try simp only [Act.put, List.setIfInBounds_toArray, List.set_cons_zero, List.set_cons_succ]
          refine wpAnyH_ready (rs := [6]) (by kernel_rfl) (by simp) ?_
          refine (AllReadyH.cons rfl (fun K hK => ?_) AllReadyH.nil)
          refine step_store_row rfl 26 (.tmp 7) (.tmp 25) rfl _ _ rfl rfl 26 Zero26 (by repeat (first | exact heap_alloc_new _ _ | exact heap_alloc2_new _ _ _ | exact hst | refine (Below.heap_alloc _ _ _ (by first | (simp; done) | (simp; omega) | (have q1 := hb1.size; have q3 := hb3.size; simp at q1 q3 ⊢; omega) | (have q1 := hb1.size; have q3 := hb3.size; simp at q1 ⊢; omega))).trans ?_ | refine (hb1.block _ (by first | (simp; done) | (simp; omega) | (have q1 := hb1.size; have q3 := hb3.size; simp at q1 q3 ⊢; omega) | (have q1 := hb1.size; have q3 := hb3.size; simp at q1 ⊢; omega))).trans ?_ | refine (hb3.block _ (by first | (simp; done) | (simp; omega) | (have q1 := hb1.size; have q3 := hb3.size; simp at q1 q3 ⊢; omega) | (have q1 := hb1.size; have q3 := hb3.size; simp at q1 ⊢; omega))).trans ?_)) info26v rfl HO1.out ?_
          refine hK.out _ _ (below_setRow hHeld (by first | (simp; done) | (simp; omega) | (have q1 := hb1.size; have q3 := hb3.size; simp at q1 q3 ⊢; omega) | (have q1 := hb1.size; have q3 := hb3.size; simp at q1 ⊢; omega)) _) (fun hHeld => ?_)
          clear hK K
          try simp only [Act.put, List.setIfInBounds_toArray, List.set_cons_zero, List.set_cons_succ]
          refine wpAnyH_ready (rs := [7]) (by kernel_rfl) (by simp) ?_
          refine (AllReadyH.cons rfl (fun K hK => ?_) AllReadyH.nil)
          refine step_store_row rfl 26 (.tmp 8) (.tmp 27) rfl _ _ rfl rfl 26 Zero26 ((row_other rfl (by first | (simp; done) | (simp; omega) | (have q1 := hb1.size; have q3 := hb3.size; simp at q1 q3 ⊢; omega) | (have q1 := hb1.size; have q3 := hb3.size; simp at q1 ⊢; omega))).trans (by repeat (first | exact heap_alloc_new _ _ | exact heap_alloc2_new _ _ _ | exact hst | refine (Below.heap_alloc _ _ _ (by first | (simp; done) | (simp; omega) | (have q1 := hb1.size; have q3 := hb3.size; simp at q1 q3 ⊢; omega) | (have q1 := hb1.size; have q3 := hb3.size; simp at q1 ⊢; omega))).trans ?_ | refine (hb1.block _ (by first | (simp; done) | (simp; omega) | (have q1 := hb1.size; have q3 := hb3.size; simp at q1 q3 ⊢; omega) | (have q1 := hb1.size; have q3 := hb3.size; simp at q1 ⊢; omega))).trans ?_ | refine (hb3.block _ (by first | (simp; done) | (simp; omega) | (have q1 := hb1.size; have q3 := hb3.size; simp at q1 q3 ⊢; omega) | (have q1 := hb1.size; have q3 := hb3.size; simp at q1 ⊢; omega))).trans ?_))) info26v rfl HO3.out ?_
          refine hK.out _ _ (below_setRow hHeld (by first | (simp; done) | (simp; omega) | (have q1 := hb1.size; have q3 := hb3.size; simp at q1 q3 ⊢; omega) | (have q1 := hb1.size; have q3 := hb3.size; simp at q1 ⊢; omega)) _) (fun hHeld => ?_)
          clear hK K
          try simp only [Act.put, List.setIfInBounds_toArray, List.set_cons_zero, List.set_cons_succ]
          refine wpAnyH_done (by kernel_rfl) ?_ _
          refine NoPanic.normal ?_
          go_wp2
          go_meet
          exact Lib.hid ⟨_, _, rfl, rfl, ⟨hHeld, (by have q1 := hb1.size; have q3 := hb3.size; (try simp at q1); (try simp at q3); (first | omega | (simp; done) | (simp; omega))), ⟨Ka, ta, ma, na, ba, ha, bsa, bva, kaa, kna, kca, kba, koa, Ca, (row_other rfl (by have q1 := hb1.size; have q3 := hb3.size; (try simp at q1); (try simp at q3); (first | omega | (simp; done) | (simp; omega)))).trans (setRow_heap _ _ _ _ _ _ (by repeat (first | exact heap_alloc_new _ _ | exact heap_alloc2_new _ _ _ | exact hst | refine (Below.heap_alloc _ _ _ (by first | (simp; done) | (simp; omega) | (have q1 := hb1.size; have q3 := hb3.size; simp at q1 q3 ⊢; omega) | (have q1 := hb1.size; have q3 := hb3.size; simp at q1 ⊢; omega))).trans ?_ | refine (hb1.block _ (by first | (simp; done) | (simp; omega) | (have q1 := hb1.size; have q3 := hb3.size; simp at q1 q3 ⊢; omega) | (have q1 := hb1.size; have q3 := hb3.size; simp at q1 ⊢; omega))).trans ?_ | refine (hb3.block _ (by first | (simp; done) | (simp; omega) | (have q1 := hb1.size; have q3 := hb3.size; simp at q1 q3 ⊢; omega) | (have q1 := hb1.size; have q3 := hb3.size; simp at q1 ⊢; omega))).trans ?_))), HD1.out _ (by have q1 := hb1.size; have q3 := hb3.size; (try simp at q1); (try simp at q3); (first | omega | (simp; done) | (simp; omega))) (fun k hk => by repeat (first | exact rfl | refine (row_other rfl (by have q1 := hb1.size; have q3 := hb3.size; have qL := HLE.out wc (Below.refl _ _); (try simp at q1); (try simp at q3); (try simp at hk); (first | omega | (simp; done) | (simp; omega)))).trans ?_ | refine (Below.heap_alloc _ _ _ (by have q1 := hb1.size; have q3 := hb3.size; have qL := HLE.out wc (Below.refl _ _); (try simp at q1); (try simp at q3); (try simp at hk); (first | omega | (simp; done) | (simp; omega)))).trans ?_ | refine (hb3.block _ (by have q1 := hb1.size; have q3 := hb3.size; have qL := HLE.out wc (Below.refl _ _); (try simp at q1); (try simp at q3); (try simp at hk); (first | omega | (simp; done) | (simp; omega)))).trans ?_))⟩, ⟨Kb, tb, mb, nb, bb, hb', bsb, bvb, kab, knb, kcb, kbb, kob, Cb, setRow_heap _ _ _ _ _ _ ((row_other rfl (by first | (simp; done) | (simp; omega) | (have q1 := hb1.size; have q3 := hb3.size; simp at q1 q3 ⊢; omega) | (have q1 := hb1.size; have q3 := hb3.size; simp at q1 ⊢; omega))).trans (by repeat (first | exact heap_alloc_new _ _ | exact heap_alloc2_new _ _ _ | exact hst | refine (Below.heap_alloc _ _ _ (by first | (simp; done) | (simp; omega) | (have q1 := hb1.size; have q3 := hb3.size; simp at q1 q3 ⊢; omega) | (have q1 := hb1.size; have q3 := hb3.size; simp at q1 ⊢; omega))).trans ?_ | refine (hb1.block _ (by first | (simp; done) | (simp; omega) | (have q1 := hb1.size; have q3 := hb3.size; simp at q1 q3 ⊢; omega) | (have q1 := hb1.size; have q3 := hb3.size; simp at q1 ⊢; omega))).trans ?_ | refine (hb3.block _ (by first | (simp; done) | (simp; omega) | (have q1 := hb1.size; have q3 := hb3.size; simp at q1 q3 ⊢; omega) | (have q1 := hb1.size; have q3 := hb3.size; simp at q1 ⊢; omega))).trans ?_))), HD3.out _ (by have q1 := hb1.size; have q3 := hb3.size; (try simp at q1); (try simp at q3); (first | omega | (simp; done) | (simp; omega))) (fun k hk => by repeat (first | exact rfl | refine (row_other rfl (by have q1 := hb1.size; have q3 := hb3.size; have qL := HLE.out wc (Below.refl _ _); (try simp at q1); (try simp at q3); (try simp at hk); (first | omega | (simp; done) | (simp; omega)))).trans ?_ | refine (Below.heap_alloc _ _ _ (by have q1 := hb1.size; have q3 := hb3.size; have qL := HLE.out wc (Below.refl _ _); (try simp at q1); (try simp at q3); (try simp at hk); (first | omega | (simp; done) | (simp; omega)))).trans ?_ | refine (hb3.block _ (by have q1 := hb1.size; have q3 := hb3.size; have qL := HLE.out wc (Below.refl _ _); (try simp at q1); (try simp at q3); (try simp at hk); (first | omega | (simp; done) | (simp; omega)))).trans ?_))⟩⟩⟩
        · go_simp
          refine hK.out _ _ (below_tr hHeld ((Below.refl _ _).alloc (Nat.le_refl _) _)) (fun hHeld => ?_)
          clear hK K
          try simp only [Act.put, List.setIfInBounds_toArray, List.set_cons_zero, List.set_cons_succ]
          refine wpAnyH_ready (rs := [3]) (by kernel_rfl) (by simp) ?_
          refine (AllReadyH.cons rfl (fun K hK => ?_) AllReadyH.nil)
          go_simp
          refine (extDocT y L _ _ (HVY.out _ hHeld) (HLE.out _ hHeld)).mono ?_
          rintro e3 w3 ⟨hb3, Kb, tb, mb, nb, bb, hb', bsb, bvb, kab, knb, kcb, kbb, kob, Cb, rfl, hcl3⟩
          have HD3 := Lib.hid hcl3
          have HO3 := Lib.hid (hcl3 w3 (Nat.le_refl _) (fun _ _ => rfl)).v.size.2
          have hbi := hb3
          clear hcl3
          refine hK.out _ _ (below_tr hHeld hbi) (fun hHeld => ?_)
          clear hK K
          try simp only [Act.put, List.setIfInBounds_toArray, List.set_cons_zero, List.set_cons_succ]
          refine wpAnyH_ready (rs := [6]) (by kernel_rfl) (by simp) ?_
          refine (AllReadyH.cons rfl (fun K hK => ?_) AllReadyH.nil)
          refine step_store_row rfl 26 (.tmp 7) (.tmp 25) rfl _ _ rfl rfl 26 Zero26 (by repeat (first | exact heap_alloc_new _ _ | exact heap_alloc2_new _ _ _ | exact hst | refine (Below.heap_alloc _ _ _ (by first | (simp; done) | (simp; omega) | (have q1 := hb1.size; have q3 := hb3.size; simp at q1 q3 ⊢; omega) | (have q1 := hb1.size; have q3 := hb3.size; simp at q1 ⊢; omega))).trans ?_ | refine (hb1.block _ (by first | (simp; done) | (simp; omega) | (have q1 := hb1.size; have q3 := hb3.size; simp at q1 q3 ⊢; omega) | (have q1 := hb1.size; have q3 := hb3.size; simp at q1 ⊢; omega))).trans ?_ | refine (hb3.block _ (by first | (simp; done) | (simp; omega) | (have q1 := hb1.size; have q3 := hb3.size; simp at q1 q3 ⊢; omega) | (have q1 := hb1.size; have q3 := hb3.size; simp at q1 ⊢; omega))).trans ?_)) info26v rfl HO1.out ?_
          refine hK.out _ _ (below_setRow hHeld (by first | (simp; done) | (simp; omega) | (have q1 := hb1.size; have q3 := hb3.size; simp at q1 q3 ⊢; omega) | (have q1 := hb1.size; have q3 := hb3.size; simp at q1 ⊢; omega)) _) (fun hHeld => ?_)
          clear hK K
          try simp only [Act.put, List.setIfInBounds_toArray, List.set_cons_zero, List.set_cons_succ]
          refine wpAnyH_ready (rs := [7]) (by kernel_rfl) (by simp) ?_
          refine (AllReadyH.cons rfl (fun K hK => ?_) AllReadyH.nil)
          refine step_store_row rfl 26 (.tmp 8) (.tmp 27) rfl _ _ rfl rfl 26 Zero26 ((row_other rfl (by first | (simp; done) | (simp; omega) | (have q1 := hb1.size; have q3 := hb3.size; simp at q1 q3 ⊢; omega) | (have q1 := hb1.size; have q3 := hb3.size; simp at q1 ⊢; omega))).trans (by repeat (first | exact heap_alloc_new _ _ | exact heap_alloc2_new _ _ _ | exact hst | refine (Below.heap_alloc _ _ _ (by first | (simp; done) | (simp; omega) | (have q1 := hb1.size; have q3 := hb3.size; simp at q1 q3 ⊢; omega) | (have q1 := hb1.size; have q3 := hb3.size; simp at q1 ⊢; omega))).trans ?_ | refine (hb1.block _ (by first | (simp; done) | (simp; omega) | (have q1 := hb1.size; have q3 := hb3.size; simp at q1 q3 ⊢; omega) | (have q1 := hb1.size; have q3 := hb3.size; simp at q1 ⊢; omega))).trans ?_ | refine (hb3.block _ (by first | (simp; done) | (simp; omega) | (have q1 := hb1.size; have q3 := hb3.size; simp at q1 q3 ⊢; omega) | (have q1 := hb1.size; have q3 := hb3.size; simp at q1 ⊢; omega))).trans ?_))) info26v rfl HO3.out ?_
          refine hK.out _ _ (below_setRow hHeld (by first | (simp; done) | (simp; omega) | (have q1 := hb1.size; have q3 := hb3.size; simp at q1 q3 ⊢; omega) | (have q1 := hb1.size; have q3 := hb3.size; simp at q1 ⊢; omega)) _) (fun hHeld => ?_)
          clear hK K
          try simp only [Act.put, List.setIfInBounds_toArray, List.set_cons_zero, List.set_cons_succ]
          refine wpAnyH_done (by kernel_rfl) ?_ _
          refine NoPanic.normal ?_
          go_wp2
          go_meet
          exact Lib.hid ⟨_, _, rfl, rfl, ⟨hHeld, (by have q1 := hb1.size; have q3 := hb3.size; (try simp at q1); (try simp at q3); (first | omega | (simp; done) | (simp; omega))), ⟨Ka, ta, ma, na, ba, ha, bsa, bva, kaa, kna, kca, kba, koa, Ca, (row_other rfl (by have q1 := hb1.size; have q3 := hb3.size; (try simp at q1); (try simp at q3); (first | omega | (simp; done) | (simp; omega)))).trans (setRow_heap _ _ _ _ _ _ (by repeat (first | exact heap_alloc_new _ _ | exact heap_alloc2_new _ _ _ | exact hst | refine (Below.heap_alloc _ _ _ (by first | (simp; done) | (simp; omega) | (have q1 := hb1.size; have q3 := hb3.size; simp at q1 q3 ⊢; omega) | (have q1 := hb1.size; have q3 := hb3.size; simp at q1 ⊢; omega))).trans ?_ | refine (hb1.block _ (by first | (simp; done) | (simp; omega) | (have q1 := hb1.size; have q3 := hb3.size; simp at q1 q3 ⊢; omega) | (have q1 := hb1.size; have q3 := hb3.size; simp at q1 ⊢; omega))).trans ?_ | refine (hb3.block _ (by first | (simp; done) | (simp; omega) | (have q1 := hb1.size; have q3 := hb3.size; simp at q1 q3 ⊢; omega) | (have q1 := hb1.size; have q3 := hb3.size; simp at q1 ⊢; omega))).trans ?_))), HD1.out _ (by have q1 := hb1.size; have q3 := hb3.size; (try simp at q1); (try simp at q3); (first | omega | (simp; done) | (simp; omega))) (fun k hk => by repeat (first | exact rfl | refine (row_other rfl (by have q1 := hb1.size; have q3 := hb3.size; have qL := HLE.out wc (Below.refl _ _); (try simp at q1); (try simp at q3); (try simp at hk); (first | omega | (simp; done) | (simp; omega)))).trans ?_ | refine (Below.heap_alloc _ _ _ (by have q1 := hb1.size; have q3 := hb3.size; have qL := HLE.out wc (Below.refl _ _); (try simp at q1); (try simp at q3); (try simp at hk); (first | omega | (simp; done) | (simp; omega)))).trans ?_ | refine (hb3.block _ (by have q1 := hb1.size; have q3 := hb3.size; have qL := HLE.out wc (Below.refl _ _); (try simp at q1); (try simp at q3); (try simp at hk); (first | omega | (simp; done) | (simp; omega)))).trans ?_))⟩, ⟨Kb, tb, mb, nb, bb, hb', bsb, bvb, kab, knb, kcb, kbb, kob, Cb, setRow_heap _ _ _ _ _ _ ((row_other rfl (by first | (simp; done) | (simp; omega) | (have q1 := hb1.size; have q3 := hb3.size; simp at q1 q3 ⊢; omega) | (have q1 := hb1.size; have q3 := hb3.size; simp at q1 ⊢; omega))).trans (by repeat (first | exact heap_alloc_new _ _ | exact heap_alloc2_new _ _ _ | exact hst | refine (Below.heap_alloc _ _ _ (by first | (simp; done) | (simp; omega) | (have q1 := hb1.size; have q3 := hb3.size; simp at q1 q3 ⊢; omega) | (have q1 := hb1.size; have q3 := hb3.size; simp at q1 ⊢; omega))).trans ?_ | refine (hb1.block _ (by first | (simp; done) | (simp; omega) | (have q1 := hb1.size; have q3 := hb3.size; simp at q1 q3 ⊢; omega) | (have q1 := hb1.size; have q3 := hb3.size; simp at q1 ⊢; omega))).trans ?_ | refine (hb3.block _ (by first | (simp; done) | (simp; omega) | (have q1 := hb1.size; have q3 := hb3.size; simp at q1 q3 ⊢; omega) | (have q1 := hb1.size; have q3 := hb3.size; simp at q1 ⊢; omega))).trans ?_))), HD3.out _ (by have q1 := hb1.size; have q3 := hb3.size; (try simp at q1); (try simp at q3); (first | omega | (simp; done) | (simp; omega))) (fun k hk => by repeat (first | exact rfl | refine (row_other rfl (by have q1 := hb1.size; have q3 := hb3.size; have qL := HLE.out wc (Below.refl _ _); (try simp at q1); (try simp at q3); (try simp at hk); (first | omega | (simp; done) | (simp; omega)))).trans ?_ | refine (Below.heap_alloc _ _ _ (by have q1 := hb1.size; have q3 := hb3.size; have qL := HLE.out wc (Below.refl _ _); (try simp at q1); (try simp at q3); (try simp at hk); (first | omega | (simp; done) | (simp; omega)))).trans ?_ | refine (hb3.block _ (by have q1 := hb1.size; have q3 := hb3.size; have qL := HLE.out wc (Below.refl _ _); (try simp at q1); (try simp at q3); (try simp at hk); (first | omega | (simp; done) | (simp; omega)))).trans ?_))⟩⟩⟩
      · go_simp
        refine hK.out _ _ (below_tr hHeld ((Below.refl _ _).alloc (Nat.le_refl _) _)) (fun hHeld => ?_)
        clear hK K
        try simp only [Act.put, List.setIfInBounds_toArray, List.set_cons_zero, List.set_cons_succ]
        refine wpAnyH_ready (rs := [3, 4]) (by kernel_rfl) (by simp) ?_
        refine (AllReadyH.cons rfl (fun K hK => ?_) (AllReadyH.cons rfl (fun K hK => ?_) AllReadyH.nil))
        · go_simp
          refine (extDocT y L _ _ (HVY.out _ hHeld) (HLE.out _ hHeld)).mono ?_
          rintro e3 w3 ⟨hb3, Kb, tb, mb, nb, bb, hb', bsb, bvb, kab, knb, kcb, kbb, kob, Cb, rfl, hcl3⟩
          have HD3 := Lib.hid hcl3
          have HO3 := Lib.hid (hcl3 w3 (Nat.le_refl _) (fun _ _ => rfl)).v.size.2
          have hbi := hb3
          clear hcl3
          refine hK.out _ _ (below_tr hHeld hbi) (fun hHeld => ?_)
          clear hK K
          try simp only [Act.put, List.setIfInBounds_toArray, List.set_cons_zero, List.set_cons_succ]
          refine wpAnyH_ready (rs := [4]) (by kernel_rfl) (by simp) ?_
          refine (AllReadyH.cons rfl (fun K hK => ?_) AllReadyH.nil)
          go_simp
          refine hK.out _ _ (below_tr hHeld ((Below.refl _ _).alloc (Nat.le_refl _) _)) (fun hHeld => ?_)
          clear hK K
          try simp only [Act.put, List.setIfInBounds_toArray, List.set_cons_zero, List.set_cons_succ]
          refine wpAnyH_ready (rs := [6]) (by kernel_rfl) (by simp) ?_
          refine (AllReadyH.cons rfl (fun K hK => ?_) AllReadyH.nil)
          refine step_store_row rfl 26 (.tmp 7) (.tmp 25) rfl _ _ rfl rfl 26 Zero26 (by repeat (first | exact heap_alloc_new _ _ | exact heap_alloc2_new _ _ _ | exact hst | refine (Below.heap_alloc _ _ _ (by first | (simp; done) | (simp; omega) | (have q1 := hb1.size; have q3 := hb3.size; simp at q1 q3 ⊢; omega) | (have q1 := hb1.size; have q3 := hb3.size; simp at q1 ⊢; omega))).trans ?_ | refine (hb1.block _ (by first | (simp; done) | (simp; omega) | (have q1 := hb1.size; have q3 := hb3.size; simp at q1 q3 ⊢; omega) | (have q1 := hb1.size; have q3 := hb3.size; simp at q1 ⊢; omega))).trans ?_ | refine (hb3.block _ (by first | (simp; done) | (simp; omega) | (have q1 := hb1.size; have q3 := hb3.size; simp at q1 q3 ⊢; omega) | (have q1 := hb1.size; have q3 := hb3.size; simp at q1 ⊢; omega))).trans ?_)) info26v rfl HO1.out ?_
          refine hK.out _ _ (below_setRow hHeld (by first | (simp; done) | (simp; omega) | (have q1 := hb1.size; have q3 := hb3.size; simp at q1 q3 ⊢; omega) | (have q1 := hb1.size; have q3 := hb3.size; simp at q1 ⊢; omega)) _) (fun hHeld => ?_)
          clear hK K
          try simp only [Act.put, List.setIfInBounds_toArray, List.set_cons_zero, List.set_cons_succ]
          refine wpAnyH_ready (rs := [7]) (by kernel_rfl) (by simp) ?_
          refine (AllReadyH.cons rfl (fun K hK => ?_) AllReadyH.nil)
          refine step_store_row rfl 26 (.tmp 8) (.tmp 27) rfl _ _ rfl rfl 26 Zero26 ((row_other rfl (by first | (simp; done) | (simp; omega) | (have q1 := hb1.size; have q3 := hb3.size; simp at q1 q3 ⊢; omega) | (have q1 := hb1.size; have q3 := hb3.size; simp at q1 ⊢; omega))).trans (by repeat (first | exact heap_alloc_new _ _ | exact heap_alloc2_new _ _ _ | exact hst | refine (Below.heap_alloc _ _ _ (by first | (simp; done) | (simp; omega) | (have q1 := hb1.size; have q3 := hb3.size; simp at q1 q3 ⊢; omega) | (have q1 := hb1.size; have q3 := hb3.size; simp at q1 ⊢; omega))).trans ?_ | refine (hb1.block _ (by first | (simp; done) | (simp; omega) | (have q1 := hb1.size; have q3 := hb3.size; simp at q1 q3 ⊢; omega) | (have q1 := hb1.size; have q3 := hb3.size; simp at q1 ⊢; omega))).trans ?_ | refine (hb3.block _ (by first | (simp; done) | (simp; omega) | (have q1 := hb1.size; have q3 := hb3.size; simp at q1 q3 ⊢; omega) | (have q1 := hb1.size; have q3 := hb3.size; simp at q1 ⊢; omega))).trans ?_))) info26v rfl HO3.out ?_
          refine hK.out _ _ (below_setRow hHeld (by first | (simp; done) | (simp; omega) | (have q1 := hb1.size; have q3 := hb3.size; simp at q1 q3 ⊢; omega) | (have q1 := hb1.size; have q3 := hb3.size; simp at q1 ⊢; omega)) _) (fun hHeld => ?_)
          clear hK K
          try simp only [Act.put, List.setIfInBounds_toArray, List.set_cons_zero, List.set_cons_succ]
          refine wpAnyH_done (by kernel_rfl) ?_ _
          refine NoPanic.normal ?_
          go_wp2
          go_meet
          exact Lib.hid ⟨_, _, rfl, rfl, ⟨hHeld, (by have q1 := hb1.size; have q3 := hb3.size; (try simp at q1); (try simp at q3); (first | omega | (simp; done) | (simp; omega))), ⟨Ka, ta, ma, na, ba, ha, bsa, bva, kaa, kna, kca, kba, koa, Ca, (row_other rfl (by have q1 := hb1.size; have q3 := hb3.size; (try simp at q1); (try simp at q3); (first | omega | (simp; done) | (simp; omega)))).trans (setRow_heap _ _ _ _ _ _ (by repeat (first | exact heap_alloc_new _ _ | exact heap_alloc2_new _ _ _ | exact hst | refine (Below.heap_alloc _ _ _ (by first | (simp; done) | (simp; omega) | (have q1 := hb1.size; have q3 := hb3.size; simp at q1 q3 ⊢; omega) | (have q1 := hb1.size; have q3 := hb3.size; simp at q1 ⊢; omega))).trans ?_ | refine (hb1.block _ (by first | (simp; done) | (simp; omega) | (have q1 := hb1.size; have q3 := hb3.size; simp at q1 q3 ⊢; omega) | (have q1 := hb1.size; have q3 := hb3.size; simp at q1 ⊢; omega))).trans ?_ | refine (hb3.block _ (by first | (simp; done) | (simp; omega) | (have q1 := hb1.size; have q3 := hb3.size; simp at q1 q3 ⊢; omega) | (have q1 := hb1.size; have q3 := hb3.size; simp at q1 ⊢; omega))).trans ?_))), HD1.out _ (by have q1 := hb1.size; have q3 := hb3.size; (try simp at q1); (try simp at q3); (first | omega | (simp; done) | (simp; omega))) (fun k hk => by repeat (first | exact rfl | refine (row_other rfl (by have q1 := hb1.size; have q3 := hb3.size; have qL := HLE.out wc (Below.refl _ _); (try simp at q1); (try simp at q3); (try simp at hk); (first | omega | (simp; done) | (simp; omega)))).trans ?_ | refine (Below.heap_alloc _ _ _ (by have q1 := hb1.size; have q3 := hb3.size; have qL := HLE.out wc (Below.refl _ _); (try simp at q1); (try simp at q3); (try simp at hk); (first | omega | (simp; done) | (simp; omega)))).trans ?_ | refine (hb3.block _ (by have q1 := hb1.size; have q3 := hb3.size; have qL := HLE.out wc (Below.refl _ _); (try simp at q1); (try simp at q3); (try simp at hk); (first | omega | (simp; done) | (simp; omega)))).trans ?_))⟩, ⟨Kb, tb, mb, nb, bb, hb', bsb, bvb, kab, knb, kcb, kbb, kob, Cb, setRow_heap _ _ _ _ _ _ ((row_other rfl (by first | (simp; done) | (simp; omega) | (have q1 := hb1.size; have q3 := hb3.size; simp at q1 q3 ⊢; omega) | (have q1 := hb1.size; have q3 := hb3.size; simp at q1 ⊢; omega))).trans (by repeat (first | exact heap_alloc_new _ _ | exact heap_alloc2_new _ _ _ | exact hst | refine (Below.heap_alloc _ _ _ (by first | (simp; done) | (simp; omega) | (have q1 := hb1.size; have q3 := hb3.size; simp at q1 q3 ⊢; omega) | (have q1 := hb1.size; have q3 := hb3.size; simp at q1 ⊢; omega))).trans ?_ | refine (hb1.block _ (by first | (simp; done) | (simp; omega) | (have q1 := hb1.size; have q3 := hb3.size; simp at q1 q3 ⊢; omega) | (have q1 := hb1.size; have q3 := hb3.size; simp at q1 ⊢; omega))).trans ?_ | refine (hb3.block _ (by first | (simp; done) | (simp; omega) | (have q1 := hb1.size; have q3 := hb3.size; simp at q1 q3 ⊢; omega) | (have q1 := hb1.size; have q3 := hb3.size; simp at q1 ⊢; omega))).trans ?_))), HD3.out _ (by have q1 := hb1.size; have q3 := hb3.size; (try simp at q1); (try simp at q3); (first | omega | (simp; done) | (simp; omega))) (fun k hk => by repeat (first | exact rfl | refine (row_other rfl (by have q1 := hb1.size; have q3 := hb3.size; have qL := HLE.out wc (Below.refl _ _); (try simp at q1); (try simp at q3); (try simp at hk); (first | omega | (simp; done) | (simp; omega)))).trans ?_ | refine (Below.heap_alloc _ _ _ (by have q1 := hb1.size; have q3 := hb3.size; have qL := HLE.out wc (Below.refl _ _); (try simp at q1); (try simp at q3); (try simp at hk); (first | omega | (simp; done) | (simp; omega)))).trans ?_ | refine (hb3.block _ (by have q1 := hb1.size; have q3 := hb3.size; have qL := HLE.out wc (Below.refl _ _); (try simp at q1); (try simp at q3); (try simp at hk); (first | omega | (simp; done) | (simp; omega)))).trans ?_))⟩⟩⟩
        · go_simp
          refine hK.out _ _ (below_tr hHeld ((Below.refl _ _).alloc (Nat.le_refl _) _)) (fun hHeld => ?_)
          clear hK K
          try simp only [Act.put, List.setIfInBounds_toArray, List.set_cons_zero, List.set_cons_succ]
          refine wpAnyH_ready (rs := [3]) (by kernel_rfl) (by simp) ?_
          refine (AllReadyH.cons rfl (fun K hK => ?_) AllReadyH.nil)
          go_simp
          refine (extDocT y L _ _ (HVY.out _ hHeld) (HLE.out _ hHeld)).mono ?_
          rintro e3 w3 ⟨hb3, Kb, tb, mb, nb, bb, hb', bsb, bvb, kab, knb, kcb, kbb, kob, Cb, rfl, hcl3⟩
          have HD3 := Lib.hid hcl3
          have HO3 := Lib.hid (hcl3 w3 (Nat.le_refl _) (fun _ _ => rfl)).v.size.2
          have hbi := hb3
          clear hcl3
          refine hK.out _ _ (below_tr hHeld hbi) (fun hHeld => ?_)
          clear hK K
          try simp only [Act.put, List.setIfInBounds_toArray, List.set_cons_zero, List.set_cons_succ]
          refine wpAnyH_ready (rs := [6]) (by kernel_rfl) (by simp) ?_
          refine (AllReadyH.cons rfl (fun K hK => ?_) AllReadyH.nil)
          refine step_store_row rfl 26 (.tmp 7) (.tmp 25) rfl _ _ rfl rfl 26 Zero26 (by repeat (first | exact heap_alloc_new _ _ | exact heap_alloc2_new _ _ _ | exact hst | refine (Below.heap_alloc _ _ _ (by first | (simp; done) | (simp; omega) | (have q1 := hb1.size; have q3 := hb3.size; simp at q1 q3 ⊢; omega) | (have q1 := hb1.size; have q3 := hb3.size; simp at q1 ⊢; omega))).trans ?_ | refine (hb1.block _ (by first | (simp; done) | (simp; omega) | (have q1 := hb1.size; have q3 := hb3.size; simp at q1 q3 ⊢; omega) | (have q1 := hb1.size; have q3 := hb3.size; simp at q1 ⊢; omega))).trans ?_ | refine (hb3.block _ (by first | (simp; done) | (simp; omega) | (have q1 := hb1.size; have q3 := hb3.size; simp at q1 q3 ⊢; omega) | (have q1 := hb1.size; have q3 := hb3.size; simp at q1 ⊢; omega))).trans ?_)) info26v rfl HO1.out ?_
          refine hK.out _ _ (below_setRow hHeld (by first | (simp; done) | (simp; omega) | (have q1 := hb1.size; have q3 := hb3.size; simp at q1 q3 ⊢; omega) | (have q1 := hb1.size; have q3 := hb3.size; simp at q1 ⊢; omega)) _) (fun hHeld => ?_)
          clear hK K
          try simp only [Act.put, List.setIfInBounds_toArray, List.set_cons_zero, List.set_cons_succ]
          refine wpAnyH_ready (rs := [7]) (by kernel_rfl) (by simp) ?_
          refine (AllReadyH.cons rfl (fun K hK => ?_) AllReadyH.nil)
          refine step_store_row rfl 26 (.tmp 8) (.tmp 27) rfl _ _ rfl rfl 26 Zero26 ((row_other rfl (by first | (simp; done) | (simp; omega) | (have q1 := hb1.size; have q3 := hb3.size; simp at q1 q3 ⊢; omega) | (have q1 := hb1.size; have q3 := hb3.size; simp at q1 ⊢; omega))).trans (by repeat (first | exact heap_alloc_new _ _ | exact heap_alloc2_new _ _ _ | exact hst | refine (Below.heap_alloc _ _ _ (by first | (simp; done) | (simp; omega) | (have q1 := hb1.size; have q3 := hb3.size; simp at q1 q3 ⊢; omega) | (have q1 := hb1.size; have q3 := hb3.size; simp at q1 ⊢; omega))).trans ?_ | refine (hb1.block _ (by first | (simp; done) | (simp; omega) | (have q1 := hb1.size; have q3 := hb3.size; simp at q1 q3 ⊢; omega) | (have q1 := hb1.size; have q3 := hb3.size; simp at q1 ⊢; omega))).trans ?_ | refine (hb3.block _ (by first | (simp; done) | (simp; omega) | (have q1 := hb1.size; have q3 := hb3.size; simp at q1 q3 ⊢; omega) | (have q1 := hb1.size; have q3 := hb3.size; simp at q1 ⊢; omega))).trans ?_))) info26v rfl HO3.out ?_
          refine hK.out _ _ (below_setRow hHeld (by first | (simp; done) | (simp; omega) | (have q1 := hb1.size; have q3 := hb3.size; simp at q1 q3 ⊢; omega) | (have q1 := hb1.size; have q3 := hb3.size; simp at q1 ⊢; omega)) _) (fun hHeld => ?_)
          clear hK K
          try simp only [Act.put, List.setIfInBounds_toArray, List.set_cons_zero, List.set_cons_succ]
          refine wpAnyH_done (by kernel_rfl) ?_ _
          refine NoPanic.normal ?_
          go_wp2
          go_meet
          exact Lib.hid ⟨_, _, rfl, rfl, ⟨hHeld, (by have q1 := hb1.size; have q3 := hb3.size; (try simp at q1); (try simp at q3); (first | omega | (simp; done) | (simp; omega))), ⟨Ka, ta, ma, na, ba, ha, bsa, bva, kaa, kna, kca, kba, koa, Ca, (row_other rfl (by have q1 := hb1.size; have q3 := hb3.size; (try simp at q1); (try simp at q3); (first | omega | (simp; done) | (simp; omega)))).trans (setRow_heap _ _ _ _ _ _ (by repeat (first | exact heap_alloc_new _ _ | exact heap_alloc2_new _ _ _ | exact hst | refine (Below.heap_alloc _ _ _ (by first | (simp; done) | (simp; omega) | (have q1 := hb1.size; have q3 := hb3.size; simp at q1 q3 ⊢; omega) | (have q1 := hb1.size; have q3 := hb3.size; simp at q1 ⊢; omega))).trans ?_ | refine (hb1.block _ (by first | (simp; done) | (simp; omega) | (have q1 := hb1.size; have q3 := hb3.size; simp at q1 q3 ⊢; omega) | (have q1 := hb1.size; have q3 := hb3.size; simp at q1 ⊢; omega))).trans ?_ | refine (hb3.block _ (by first | (simp; done) | (simp; omega) | (have q1 := hb1.size; have q3 := hb3.size; simp at q1 q3 ⊢; omega) | (have q1 := hb1.size; have q3 := hb3.size; simp at q1 ⊢; omega))).trans ?_))), HD1.out _ (by have q1 := hb1.size; have q3 := hb3.size; (try simp at q1); (try simp at q3); (first | omega | (simp; done) | (simp; omega))) (fun k hk => by repeat (first | exact rfl | refine (row_other rfl (by have q1 := hb1.size; have q3 := hb3.size; have qL := HLE.out wc (Below.refl _ _); (try simp at q1); (try simp at q3); (try simp at hk); (first | omega | (simp; done) | (simp; omega)))).trans ?_ | refine (Below.heap_alloc _ _ _ (by have q1 := hb1.size; have q3 := hb3.size; have qL := HLE.out wc (Below.refl _ _); (try simp at q1); (try simp at q3); (try simp at hk); (first | omega | (simp; done) | (simp; omega)))).trans ?_ | refine (hb3.block _ (by have q1 := hb1.size; have q3 := hb3.size; have qL := HLE.out wc (Below.refl _ _); (try simp at q1); (try simp at q3); (try simp at hk); (first | omega | (simp; done) | (simp; omega)))).trans ?_))⟩, ⟨Kb, tb, mb, nb, bb, hb', bsb, bvb, kab, knb, kcb, kbb, kob, Cb, setRow_heap _ _ _ _ _ _ ((row_other rfl (by first | (simp; done) | (simp; omega) | (have q1 := hb1.size; have q3 := hb3.size; simp at q1 q3 ⊢; omega) | (have q1 := hb1.size; have q3 := hb3.size; simp at q1 ⊢; omega))).trans (by repeat (first | exact heap_alloc_new _ _ | exact heap_alloc2_new _ _ _ | exact hst | refine (Below.heap_alloc _ _ _ (by first | (simp; done) | (simp; omega) | (have q1 := hb1.size; have q3 := hb3.size; simp at q1 q3 ⊢; omega) | (have q1 := hb1.size; have q3 := hb3.size; simp at q1 ⊢; omega))).trans ?_ | refine (hb1.block _ (by first | (simp; done) | (simp; omega) | (have q1 := hb1.size; have q3 := hb3.size; simp at q1 q3 ⊢; omega) | (have q1 := hb1.size; have q3 := hb3.size; simp at q1 ⊢; omega))).trans ?_ | refine (hb3.block _ (by first | (simp; done) | (simp; omega) | (have q1 := hb1.size; have q3 := hb3.size; simp at q1 q3 ⊢; omega) | (have q1 := hb1.size; have q3 := hb3.size; simp at q1 ⊢; omega))).trans ?_))), HD3.out _ (by have q1 := hb1.size; have q3 := hb3.size; (try simp at q1); (try simp at q3); (first | omega | (simp; done) | (simp; omega))) (fun k hk => by repeat (first | exact rfl | refine (row_other rfl (by have q1 := hb1.size; have q3 := hb3.size; have qL := HLE.out wc (Below.refl _ _); (try simp at q1); (try simp at q3); (try simp at hk); (first | omega | (simp; done) | (simp; omega)))).trans ?_ | refine (Below.heap_alloc _ _ _ (by have q1 := hb1.size; have q3 := hb3.size; have qL := HLE.out wc (Below.refl _ _); (try simp at q1); (try simp at q3); (try simp at hk); (first | omega | (simp; done) | (simp; omega)))).trans ?_ | refine (hb3.block _ (by have q1 := hb1.size; have q3 := hb3.size; have qL := HLE.out wc (Below.refl _ _); (try simp at q1); (try simp at q3); (try simp at hk); (first | omega | (simp; done) | (simp; omega)))).trans ?_))⟩⟩⟩
    · go_simp
      refine hK.out _ _ (below_tr hHeld ((Below.refl _ _).alloc (Nat.le_refl _) _)) (fun hHeld => ?_)
      clear hK K
      try simp only [Act.put, List.setIfInBounds_toArray, List.set_cons_zero, List.set_cons_succ]
      refine wpAnyH_ready (rs := [1, 5]) (by kernel_rfl) (by simp) ?_
      refine (AllReadyH.cons rfl (fun K hK => ?_) (AllReadyH.cons rfl (fun K hK => ?_) AllReadyH.nil))
      · go_simp
        refine (extDocT x L _ _ (HVX.out _ hHeld) (HLE.out _ hHeld)).mono ?_
        rintro e1 w1 ⟨hb1, Ka, ta, ma, na, ba, ha, bsa, bva, kaa, kna, kca, kba, koa, Ca, rfl, hcl1⟩
        have HD1 := Lib.hid hcl1
        have HO1 := Lib.hid (hcl1 w1 (Nat.le_refl _) (fun _ _ => rfl)).v.size.2
        have hbi := hb1
        clear hcl1
        refine hK.out _ _ (below_tr hHeld hbi) (fun hHeld => ?_)
        clear hK K
        try simp only [Act.put, List.setIfInBounds_toArray, List.set_cons_zero, List.set_cons_succ]
        refine wpAnyH_ready (rs := [3, 5]) (by kernel_rfl) (by simp) ?_
        refine (AllReadyH.cons rfl (fun K hK => ?_) (AllReadyH.cons rfl (fun K hK => ?_) AllReadyH.nil))
        · go_simp
          refine (extDocT y L _ _ (HVY.out _ hHeld) (HLE.out _ hHeld)).mono ?_
          rintro e3 w3 ⟨hb3, Kb, tb, mb, nb, bb, hb', bsb, bvb, kab, knb, kcb, kbb, kob, Cb, rfl, hcl3⟩
          have HD3 := Lib.hid hcl3
          have HO3 := Lib.hid (hcl3 w3 (Nat.le_refl _) (fun _ _ => rfl)).v.size.2
          have hbi := hb3
          clear hcl3
          refine hK.out _ _ (below_tr hHeld hbi) (fun hHeld => ?_)
          clear hK K
          try simp only [Act.put, List.setIfInBounds_toArray, List.set_cons_zero, List.set_cons_succ]
          refine wpAnyH_ready (rs := [5]) (by kernel_rfl) (by simp) ?_
          refine (AllReadyH.cons rfl (fun K hK => ?_) AllReadyH.nil)
          go_simp
          refine hK.out _ _ (below_tr hHeld ((Below.refl _ _).alloc (Nat.le_refl _) _)) (fun hHeld => ?_)
          clear hK K
          try simp only [Act.put, List.setIfInBounds_toArray, List.set_cons_zero, List.set_cons_succ]
          refine wpAnyH_ready (rs := [6]) (by kernel_rfl) (by simp) ?_
          refine (AllReadyH.cons rfl (fun K hK => ?_) AllReadyH.nil)
          refine step_store_row rfl 26 (.tmp 7) (.tmp 25) rfl _ _ rfl rfl 26 Zero26 (by repeat (first | exact heap_alloc_new _ _ | exact heap_alloc2_new _ _ _ | exact hst | refine (Below.heap_alloc _ _ _ (by first | (simp; done) | (simp; omega) | (have q1 := hb1.size; have q3 := hb3.size; simp at q1 q3 ⊢; omega) | (have q1 := hb1.size; have q3 := hb3.size; simp at q1 ⊢; omega))).trans ?_ | refine (hb1.block _ (by first | (simp; done) | (simp; omega) | (have q1 := hb1.size; have q3 := hb3.size; simp at q1 q3 ⊢; omega) | (have q1 := hb1.size; have q3 := hb3.size; simp at q1 ⊢; omega))).trans ?_ | refine (hb3.block _ (by first | (simp; done) | (simp; omega) | (have q1 := hb1.size; have q3 := hb3.size; simp at q1 q3 ⊢; omega) | (have q1 := hb1.size; have q3 := hb3.size; simp at q1 ⊢; omega))).trans ?_)) info26v rfl HO1.out ?_
          refine hK.out _ _ (below_setRow hHeld (by first | (simp; done) | (simp; omega) | (have q1 := hb1.size; have q3 := hb3.size; simp at q1 q3 ⊢; omega) | (have q1 := hb1.size; have q3 := hb3.size; simp at q1 ⊢; omega)) _) (fun hHeld => ?_)
          clear hK K
          try simp only [Act.put, List.setIfInBounds_toArray, List.set_cons_zero, List.set_cons_succ]
          refine wpAnyH_ready (rs := [7]) (by kernel_rfl) (by simp) ?_
          refine (AllReadyH.cons rfl (fun K hK => ?_) AllReadyH.nil)
          refine step_store_row rfl 26 (.tmp 8) (.tmp 27) rfl _ _ rfl rfl 26 Zero26 ((row_other rfl (by first | (simp; done) | (simp; omega) | (have q1 := hb1.size; have q3 := hb3.size; simp at q1 q3 ⊢; omega) | (have q1 := hb1.size; have q3 := hb3.size; simp at q1 ⊢; omega))).trans (by repeat (first | exact heap_alloc_new _ _ | exact heap_alloc2_new _ _ _ | exact hst | refine (Below.heap_alloc _ _ _ (by first | (simp; done) | (simp; omega) | (have q1 := hb1.size; have q3 := hb3.size; simp at q1 q3 ⊢; omega) | (have q1 := hb1.size; have q3 := hb3.size; simp at q1 ⊢; omega))).trans ?_ | refine (hb1.block _ (by first | (simp; done) | (simp; omega) | (have q1 := hb1.size; have q3 := hb3.size; simp at q1 q3 ⊢; omega) | (have q1 := hb1.size; have q3 := hb3.size; simp at q1 ⊢; omega))).trans ?_ | refine (hb3.block _ (by first | (simp; done) | (simp; omega) | (have q1 := hb1.size; have q3 := hb3.size; simp at q1 q3 ⊢; omega) | (have q1 := hb1.size; have q3 := hb3.size; simp at q1 ⊢; omega))).trans ?_))) info26v rfl HO3.out ?_
          refine hK.out _ _ (below_setRow hHeld (by first | (simp; done) | (simp; omega) | (have q1 := hb1.size; have q3 := hb3.size; simp at q1 q3 ⊢; omega) | (have q1 := hb1.size; have q3 := hb3.size; simp at q1 ⊢; omega)) _) (fun hHeld => ?_)
          clear hK K
          try simp only [Act.put, List.setIfInBounds_toArray, List.set_cons_zero, List.set_cons_succ]
          refine wpAnyH_done (by kernel_rfl) ?_ _
          refine NoPanic.normal ?_
          go_wp2
          go_meet
          exact Lib.hid ⟨_, _, rfl, rfl, ⟨hHeld, (by have q1 := hb1.size; have q3 := hb3.size; (try simp at q1); (try simp at q3); (first | omega | (simp; done) | (simp; omega))), ⟨Ka, ta, ma, na, ba, ha, bsa, bva, kaa, kna, kca, kba, koa, Ca, (row_other rfl (by have q1 := hb1.size; have q3 := hb3.size; (try simp at q1); (try simp at q3); (first | omega | (simp; done) | (simp; omega)))).trans (setRow_heap _ _ _ _ _ _ (by repeat (first | exact heap_alloc_new _ _ | exact heap_alloc2_new _ _ _ | exact hst | refine (Below.heap_alloc _ _ _ (by first | (simp; done) | (simp; omega) | (have q1 := hb1.size; have q3 := hb3.size; simp at q1 q3 ⊢; omega) | (have q1 := hb1.size; have q3 := hb3.size; simp at q1 ⊢; omega))).trans ?_ | refine (hb1.block _ (by first | (simp; done) | (simp; omega) | (have q1 := hb1.size; have q3 := hb3.size; simp at q1 q3 ⊢; omega) | (have q1 := hb1.size; have q3 := hb3.size; simp at q1 ⊢; omega))).trans ?_ | refine (hb3.block _ (by first | (simp; done) | (simp; omega) | (have q1 := hb1.size; have q3 := hb3.size; simp at q1 q3 ⊢; omega) | (have q1 := hb1.size; have q3 := hb3.size; simp at q1 ⊢; omega))).trans ?_))), HD1.out _ (by have q1 := hb1.size; have q3 := hb3.size; (try simp at q1); (try simp at q3); (first | omega | (simp; done) | (simp; omega))) (fun k hk => by repeat (first | exact rfl | refine (row_other rfl (by have q1 := hb1.size; have q3 := hb3.size; have qL := HLE.out wc (Below.refl _ _); (try simp at q1); (try simp at q3); (try simp at hk); (first | omega | (simp; done) | (simp; omega)))).trans ?_ | refine (Below.heap_alloc _ _ _ (by have q1 := hb1.size; have q3 := hb3.size; have qL := HLE.out wc (Below.refl _ _); (try simp at q1); (try simp at q3); (try simp at hk); (first | omega | (simp; done) | (simp; omega)))).trans ?_ | refine (hb3.block _ (by have q1 := hb1.size; have q3 := hb3.size; have qL := HLE.out wc (Below.refl _ _); (try simp at q1); (try simp at q3); (try simp at hk); (first | omega | (simp; done) | (simp; omega)))).trans ?_))⟩, ⟨Kb, tb, mb, nb, bb, hb', bsb, bvb, kab, knb, kcb, kbb, kob, Cb, setRow_heap _ _ _ _ _ _ ((row_other rfl (by first | (simp; done) | (simp; omega) | (have q1 := hb1.size; have q3 := hb3.size; simp at q1 q3 ⊢; omega) | (have q1 := hb1.size; have q3 := hb3.size; simp at q1 ⊢; omega))).trans (by repeat (first | exact heap_alloc_new _ _ | exact heap_alloc2_new _ _ _ | exact hst | refine (Below.heap_alloc _ _ _ (by first | (simp; done) | (simp; omega) | (have q1 := hb1.size; have q3 := hb3.size; simp at q1 q3 ⊢; omega) | (have q1 := hb1.size; have q3 := hb3.size; simp at q1 ⊢; omega))).trans ?_ | refine (hb1.block _ (by first | (simp; done) | (simp; omega) | (have q1 := hb1.size; have q3 := hb3.size; simp at q1 q3 ⊢; omega) | (have q1 := hb1.size; have q3 := hb3.size; simp at q1 ⊢; omega))).trans ?_ | refine (hb3.block _ (by first | (simp; done) | (simp; omega) | (have q1 := hb1.size; have q3 := hb3.size; simp at q1 q3 ⊢; omega) | (have q1 := hb1.size; have q3 := hb3.size; simp at q1 ⊢; omega))).trans ?_))), HD3.out _ (by have q1 := hb1.size; have q3 := hb3.size; (try simp at q1); (try simp at q3); (first | omega | (simp; done) | (simp; omega))) (fun k hk => by repeat (first | exact rfl | refine (row_other rfl (by have q1 := hb1.size; have q3 := hb3.size; have qL := HLE.out wc (Below.refl _ _); (try simp at q1); (try simp at q3); (try simp at hk); (first | omega | (simp; done) | (simp; omega)))).trans ?_ | refine (Below.heap_alloc _ _ _ (by have q1 := hb1.size; have q3 := hb3.size; have qL := HLE.out wc (Below.refl _ _); (try simp at q1); (try simp at q3); (try simp at hk); (first | omega | (simp; done) | (simp; omega)))).trans ?_ | refine (hb3.block _ (by have q1 := hb1.size; have q3 := hb3.size; have qL := HLE.out wc (Below.refl _ _); (try simp at q1); (try simp at q3); (try simp at hk); (first | omega | (simp; done) | (simp; omega)))).trans ?_))⟩⟩⟩
        · go_simp
          refine hK.out _ _ (below_tr hHeld ((Below.refl _ _).alloc (Nat.le_refl _) _)) (fun hHeld => ?_)
          clear hK K
          try simp only [Act.put, List.setIfInBounds_toArray, List.set_cons_zero, List.set_cons_succ]
          refine wpAnyH_ready (rs := [3]) (by kernel_rfl) (by simp) ?_
          refine (AllReadyH.cons rfl (fun K hK => ?_) AllReadyH.nil)
          go_simp
          refine (extDocT y L _ _ (HVY.out _ hHeld) (HLE.out _ hHeld)).mono ?_
          rintro e3 w3 ⟨hb3, Kb, tb, mb, nb, bb, hb', bsb, bvb, kab, knb, kcb, kbb, kob, Cb, rfl, hcl3⟩
          have HD3 := Lib.hid hcl3
          have HO3 := Lib.hid (hcl3 w3 (Nat.le_refl _) (fun _ _ => rfl)).v.size.2
          have hbi := hb3
          clear hcl3
          refine hK.out _ _ (below_tr hHeld hbi) (fun hHeld => ?_)
          clear hK K
          try simp only [Act.put, List.setIfInBounds_toArray, List.set_cons_zero, List.set_cons_succ]
          refine wpAnyH_ready (rs := [6]) (by kernel_rfl) (by simp) ?_
          refine (AllReadyH.cons rfl (fun K hK => ?_) AllReadyH.nil)
          refine step_store_row rfl 26 (.tmp 7) (.tmp 25) rfl _ _ rfl rfl 26 Zero26 (by repeat (first | exact heap_alloc_new _ _ | exact heap_alloc2_new _ _ _ | exact hst | refine (Below.heap_alloc _ _ _ (by first | (simp; done) | (simp; omega) | (have q1 := hb1.size; have q3 := hb3.size; simp at q1 q3 ⊢; omega) | (have q1 := hb1.size; have q3 := hb3.size; simp at q1 ⊢; omega))).trans ?_ | refine (hb1.block _ (by first | (simp; done) | (simp; omega) | (have q1 := hb1.size; have q3 := hb3.size; simp at q1 q3 ⊢; omega) | (have q1 := hb1.size; have q3 := hb3.size; simp at q1 ⊢; omega))).trans ?_ | refine (hb3.block _ (by first | (simp; done) | (simp; omega) | (have q1 := hb1.size; have q3 := hb3.size; simp at q1 q3 ⊢; omega) | (have q1 := hb1.size; have q3 := hb3.size; simp at q1 ⊢; omega))).trans ?_)) info26v rfl HO1.out ?_
          refine hK.out _ _ (below_setRow hHeld (by first | (simp; done) | (simp; omega) | (have q1 := hb1.size; have q3 := hb3.size; simp at q1 q3 ⊢; omega) | (have q1 := hb1.size; have q3 := hb3.size; simp at q1 ⊢; omega)) _) (fun hHeld => ?_)
          clear hK K
          try simp only [Act.put, List.setIfInBounds_toArray, List.set_cons_zero, List.set_cons_succ]
          refine wpAnyH_ready (rs := [7]) (by kernel_rfl) (by simp) ?_
          refine (AllReadyH.cons rfl (fun K hK => ?_) AllReadyH.nil)
          refine step_store_row rfl 26 (.tmp 8) (.tmp 27) rfl _ _ rfl rfl 26 Zero26 ((row_other rfl (by first | (simp; done) | (simp; omega) | (have q1 := hb1.size; have q3 := hb3.size; simp at q1 q3 ⊢; omega) | (have q1 := hb1.size; have q3 := hb3.size; simp at q1 ⊢; omega))).trans (by repeat (first | exact heap_alloc_new _ _ | exact heap_alloc2_new _ _ _ | exact hst | refine (Below.heap_alloc _ _ _ (by first | (simp; done) | (simp; omega) | (have q1 := hb1.size; have q3 := hb3.size; simp at q1 q3 ⊢; omega) | (have q1 := hb1.size; have q3 := hb3.size; simp at q1 ⊢; omega))).trans ?_ | refine (hb1.block _ (by first | (simp; done) | (simp; omega) | (have q1 := hb1.size; have q3 := hb3.size; simp at q1 q3 ⊢; omega) | (have q1 := hb1.size; have q3 := hb3.size; simp at q1 ⊢; omega))).trans ?_ | refine (hb3.block _ (by first | (simp; done) | (simp; omega) | (have q1 := hb1.size; have q3 := hb3.size; simp at q1 q3 ⊢; omega) | (have q1 := hb1.size; have q3 := hb3.size; simp at q1 ⊢; omega))).trans ?_))) info26v rfl HO3.out ?_
          refine hK.out _ _ (below_setRow hHeld (by first | (simp; done) | (simp; omega) | (have q1 := hb1.size; have q3 := hb3.size; simp at q1 q3 ⊢; omega) | (have q1 := hb1.size; have q3 := hb3.size; simp at q1 ⊢; omega)) _) (fun hHeld => ?_)
          clear hK K
          try simp only [Act.put, List.setIfInBounds_toArray, List.set_cons_zero, List.set_cons_succ]
          refine wpAnyH_done (by kernel_rfl) ?_ _
          refine NoPanic.normal ?_
          go_wp2
          go_meet
          exact Lib.hid ⟨_, _, rfl, rfl, ⟨hHeld, (by have q1 := hb1.size; have q3 := hb3.size; (try simp at q1); (try simp at q3); (first | omega | (simp; done) | (simp; omega))), ⟨Ka, ta, ma, na, ba, ha, bsa, bva, kaa, kna, kca, kba, koa, Ca, (row_other rfl (by have q1 := hb1.size; have q3 := hb3.size; (try simp at q1); (try simp at q3); (first | omega | (simp; done) | (simp; omega)))).trans (setRow_heap _ _ _ _ _ _ (by repeat (first | exact heap_alloc_new _ _ | exact heap_alloc2_new _ _ _ | exact hst | refine (Below.heap_alloc _ _ _ (by first | (simp; done) | (simp; omega) | (have q1 := hb1.size; have q3 := hb3.size; simp at q1 q3 ⊢; omega) | (have q1 := hb1.size; have q3 := hb3.size; simp at q1 ⊢; omega))).trans ?_ | refine (hb1.block _ (by first | (simp; done) | (simp; omega) | (have q1 := hb1.size; have q3 := hb3.size; simp at q1 q3 ⊢; omega) | (have q1 := hb1.size; have q3 := hb3.size; simp at q1 ⊢; omega))).trans ?_ | refine (hb3.block _ (by first | (simp; done) | (simp; omega) | (have q1 := hb1.size; have q3 := hb3.size; simp at q1 q3 ⊢; omega) | (have q1 := hb1.size; have q3 := hb3.size; simp at q1 ⊢; omega))).trans ?_))), HD1.out _ (by have q1 := hb1.size; have q3 := hb3.size; (try simp at q1); (try simp at q3); (first | omega | (simp; done) | (simp; omega))) (fun k hk => by repeat (first | exact rfl | refine (row_other rfl (by have q1 := hb1.size; have q3 := hb3.size; have qL := HLE.out wc (Below.refl _ _); (try simp at q1); (try simp at q3); (try simp at hk); (first | omega | (simp; done) | (simp; omega)))).trans ?_ | refine (Below.heap_alloc _ _ _ (by have q1 := hb1.size; have q3 := hb3.size; have qL := HLE.out wc (Below.refl _ _); (try simp at q1); (try simp at q3); (try simp at hk); (first | omega | (simp; done) | (simp; omega)))).trans ?_ | refine (hb3.block _ (by have q1 := hb1.size; have q3 := hb3.size; have qL := HLE.out wc (Below.refl _ _); (try simp at q1); (try simp at q3); (try simp at hk); (first | omega | (simp; done) | (simp; omega)))).trans ?_))⟩, ⟨Kb, tb, mb, nb, bb, hb', bsb, bvb, kab, knb, kcb, kbb, kob, Cb, setRow_heap _ _ _ _ _ _ ((row_other rfl (by first | (simp; done) | (simp; omega) | (have q1 := hb1.size; have q3 := hb3.size; simp at q1 q3 ⊢; omega) | (have q1 := hb1.size; have q3 := hb3.size; simp at q1 ⊢; omega))).trans (by repeat (first | exact heap_alloc_new _ _ | exact heap_alloc2_new _ _ _ | exact hst | refine (Below.heap_alloc _ _ _ (by first | (simp; done) | (simp; omega) | (have q1 := hb1.size; have q3 := hb3.size; simp at q1 q3 ⊢; omega) | (have q1 := hb1.size; have q3 := hb3.size; simp at q1 ⊢; omega))).trans ?_ | refine (hb1.block _ (by first | (simp; done) | (simp; omega) | (have q1 := hb1.size; have q3 := hb3.size; simp at q1 q3 ⊢; omega) | (have q1 := hb1.size; have q3 := hb3.size; simp at q1 ⊢; omega))).trans ?_ | refine (hb3.block _ (by first | (simp; done) | (simp; omega) | (have q1 := hb1.size; have q3 := hb3.size; simp at q1 q3 ⊢; omega) | (have q1 := hb1.size; have q3 := hb3.size; simp at q1 ⊢; omega))).trans ?_))), HD3.out _ (by have q1 := hb1.size; have q3 := hb3.size; (try simp at q1); (try simp at q3); (first | omega | (simp; done) | (simp; omega))) (fun k hk => by repeat (first | exact rfl | refine (row_other rfl (by have q1 := hb1.size; have q3 := hb3.size; have qL := HLE.out wc (Below.refl _ _); (try simp at q1); (try simp at q3); (try simp at hk); (first | omega | (simp; done) | (simp; omega)))).trans ?_ | refine (Below.heap_alloc _ _ _ (by have q1 := hb1.size; have q3 := hb3.size; have qL := HLE.out wc (Below.refl _ _); (try simp at q1); (try simp at q3); (try simp at hk); (first | omega | (simp; done) | (simp; omega)))).trans ?_ | refine (hb3.block _ (by have q1 := hb1.size; have q3 := hb3.size; have qL := HLE.out wc (Below.refl _ _); (try simp at q1); (try simp at q3); (try simp at hk); (first | omega | (simp; done) | (simp; omega)))).trans ?_))⟩⟩⟩
      · go_simp
        refine hK.out _ _ (below_tr hHeld ((Below.refl _ _).alloc (Nat.le_refl _) _)) (fun hHeld => ?_)
        clear hK K
        try simp only [Act.put, List.setIfInBounds_toArray, List.set_cons_zero, List.set_cons_succ]
        refine wpAnyH_ready (rs := [1]) (by kernel_rfl) (by simp) ?_
        refine (AllReadyH.cons rfl (fun K hK => ?_) AllReadyH.nil)
        go_simp
        refine (extDocT x L _ _ (HVX.out _ hHeld) (HLE.out _ hHeld)).mono ?_
        rintro e1 w1 ⟨hb1, Ka, ta, ma, na, ba, ha, bsa, bva, kaa, kna, kca, kba, koa, Ca, rfl, hcl1⟩
        have HD1 := Lib.hid hcl1
        have HO1 := Lib.hid (hcl1 w1 (Nat.le_refl _) (fun _ _ => rfl)).v.size.2
        have hbi := hb1
        clear hcl1
        refine hK.out _ _ (below_tr hHeld hbi) (fun hHeld => ?_)
        clear hK K
        try simp only [Act.put, List.setIfInBounds_toArray, List.set_cons_zero, List.set_cons_succ]
        refine wpAnyH_ready (rs := [3]) (by kernel_rfl) (by simp) ?_
        refine (AllReadyH.cons rfl (fun K hK => ?_) AllReadyH.nil)
        go_simp
        refine (extDocT y L _ _ (HVY.out _ hHeld) (HLE.out _ hHeld)).mono ?_
        rintro e3 w3 ⟨hb3, Kb, tb, mb, nb, bb, hb', bsb, bvb, kab, knb, kcb, kbb, kob, Cb, rfl, hcl3⟩
        have HD3 := Lib.hid hcl3
        have HO3 := Lib.hid (hcl3 w3 (Nat.le_refl _) (fun _ _ => rfl)).v.size.2
        have hbi := hb3
        clear hcl3
        refine hK.out _ _ (below_tr hHeld hbi) (fun hHeld => ?_)
        clear hK K
        try simp only [Act.put, List.setIfInBounds_toArray, List.set_cons_zero, List.set_cons_succ]
        refine wpAnyH_ready (rs := [6]) (by kernel_rfl) (by simp) ?_
        refine (AllReadyH.cons rfl (fun K hK => ?_) AllReadyH.nil)
        refine step_store_row rfl 26 (.tmp 7) (.tmp 25) rfl _ _ rfl rfl 26 Zero26 (by repeat (first | exact heap_alloc_new _ _ | exact heap_alloc2_new _ _ _ | exact hst | refine (Below.heap_alloc _ _ _ (by first | (simp; done) | (simp; omega) | (have q1 := hb1.size; have q3 := hb3.size; simp at q1 q3 ⊢; omega) | (have q1 := hb1.size; have q3 := hb3.size; simp at q1 ⊢; omega))).trans ?_ | refine (hb1.block _ (by first | (simp; done) | (simp; omega) | (have q1 := hb1.size; have q3 := hb3.size; simp at q1 q3 ⊢; omega) | (have q1 := hb1.size; have q3 := hb3.size; simp at q1 ⊢; omega))).trans ?_ | refine (hb3.block _ (by first | (simp; done) | (simp; omega) | (have q1 := hb1.size; have q3 := hb3.size; simp at q1 q3 ⊢; omega) | (have q1 := hb1.size; have q3 := hb3.size; simp at q1 ⊢; omega))).trans ?_)) info26v rfl HO1.out ?_
        refine hK.out _ _ (below_setRow hHeld (by first | (simp; done) | (simp; omega) | (have q1 := hb1.size; have q3 := hb3.size; simp at q1 q3 ⊢; omega) | (have q1 := hb1.size; have q3 := hb3.size; simp at q1 ⊢; omega)) _) (fun hHeld => ?_)
        clear hK K
        try simp only [Act.put, List.setIfInBounds_toArray, List.set_cons_zero, List.set_cons_succ]
        refine wpAnyH_ready (rs := [7]) (by kernel_rfl) (by simp) ?_
        refine (AllReadyH.cons rfl (fun K hK => ?_) AllReadyH.nil)
        refine step_store_row rfl 26 (.tmp 8) (.tmp 27) rfl _ _ rfl rfl 26 Zero26 ((row_other rfl (by first | (simp; done) | (simp; omega) | (have q1 := hb1.size; have q3 := hb3.size; simp at q1 q3 ⊢; omega) | (have q1 := hb1.size; have q3 := hb3.size; simp at q1 ⊢; omega))).trans (by repeat (first | exact heap_alloc_new _ _ | exact heap_alloc2_new _ _ _ | exact hst | refine (Below.heap_alloc _ _ _ (by first | (simp; done) | (simp; omega) | (have q1 := hb1.size; have q3 := hb3.size; simp at q1 q3 ⊢; omega) | (have q1 := hb1.size; have q3 := hb3.size; simp at q1 ⊢; omega))).trans ?_ | refine (hb1.block _ (by first | (simp; done) | (simp; omega) | (have q1 := hb1.size; have q3 := hb3.size; simp at q1 q3 ⊢; omega) | (have q1 := hb1.size; have q3 := hb3.size; simp at q1 ⊢; omega))).trans ?_ | refine (hb3.block _ (by first | (simp; done) | (simp; omega) | (have q1 := hb1.size; have q3 := hb3.size; simp at q1 q3 ⊢; omega) | (have q1 := hb1.size; have q3 := hb3.size; simp at q1 ⊢; omega))).trans ?_))) info26v rfl HO3.out ?_
        refine hK.out _ _ (below_setRow hHeld (by first | (simp; done) | (simp; omega) | (have q1 := hb1.size; have q3 := hb3.size; simp at q1 q3 ⊢; omega) | (have q1 := hb1.size; have q3 := hb3.size; simp at q1 ⊢; omega)) _) (fun hHeld => ?_)
        clear hK K
        try simp only [Act.put, List.setIfInBounds_toArray, List.set_cons_zero, List.set_cons_succ]
        refine wpAnyH_done (by kernel_rfl) ?_ _
        refine NoPanic.normal ?_
        go_wp2
        go_meet
        exact Lib.hid ⟨_, _, rfl, rfl, ⟨hHeld, (by have q1 := hb1.size; have q3 := hb3.size; (try simp at q1); (try simp at q3); (first | omega | (simp; done) | (simp; omega))), ⟨Ka, ta, ma, na, ba, ha, bsa, bva, kaa, kna, kca, kba, koa, Ca, (row_other rfl (by have q1 := hb1.size; have q3 := hb3.size; (try simp at q1); (try simp at q3); (first | omega | (simp; done) | (simp; omega)))).trans (setRow_heap _ _ _ _ _ _ (by repeat (first | exact heap_alloc_new _ _ | exact heap_alloc2_new _ _ _ | exact hst | refine (Below.heap_alloc _ _ _ (by first | (simp; done) | (simp; omega) | (have q1 := hb1.size; have q3 := hb3.size; simp at q1 q3 ⊢; omega) | (have q1 := hb1.size; have q3 := hb3.size; simp at q1 ⊢; omega))).trans ?_ | refine (hb1.block _ (by first | (simp; done) | (simp; omega) | (have q1 := hb1.size; have q3 := hb3.size; simp at q1 q3 ⊢; omega) | (have q1 := hb1.size; have q3 := hb3.size; simp at q1 ⊢; omega))).trans ?_ | refine (hb3.block _ (by first | (simp; done) | (simp; omega) | (have q1 := hb1.size; have q3 := hb3.size; simp at q1 q3 ⊢; omega) | (have q1 := hb1.size; have q3 := hb3.size; simp at q1 ⊢; omega))).trans ?_))), HD1.out _ (by have q1 := hb1.size; have q3 := hb3.size; (try simp at q1); (try simp at q3); (first | omega | (simp; done) | (simp; omega))) (fun k hk => by repeat (first | exact rfl | refine (row_other rfl (by have q1 := hb1.size; have q3 := hb3.size; have qL := HLE.out wc (Below.refl _ _); (try simp at q1); (try simp at q3); (try simp at hk); (first | omega | (simp; done) | (simp; omega)))).trans ?_ | refine (Below.heap_alloc _ _ _ (by have q1 := hb1.size; have q3 := hb3.size; have qL := HLE.out wc (Below.refl _ _); (try simp at q1); (try simp at q3); (try simp at hk); (first | omega | (simp; done) | (simp; omega)))).trans ?_ | refine (hb3.block _ (by have q1 := hb1.size; have q3 := hb3.size; have qL := HLE.out wc (Below.refl _ _); (try simp at q1); (try simp at q3); (try simp at hk); (first | omega | (simp; done) | (simp; omega)))).trans ?_))⟩, ⟨Kb, tb, mb, nb, bb, hb', bsb, bvb, kab, knb, kcb, kbb, kob, Cb, setRow_heap _ _ _ _ _ _ ((row_other rfl (by first | (simp; done) | (simp; omega) | (have q1 := hb1.size; have q3 := hb3.size; simp at q1 q3 ⊢; omega) | (have q1 := hb1.size; have q3 := hb3.size; simp at q1 ⊢; omega))).trans (by repeat (first | exact heap_alloc_new _ _ | exact heap_alloc2_new _ _ _ | exact hst | refine (Below.heap_alloc _ _ _ (by first | (simp; done) | (simp; omega) | (have q1 := hb1.size; have q3 := hb3.size; simp at q1 q3 ⊢; omega) | (have q1 := hb1.size; have q3 := hb3.size; simp at q1 ⊢; omega))).trans ?_ | refine (hb1.block _ (by first | (simp; done) | (simp; omega) | (have q1 := hb1.size; have q3 := hb3.size; simp at q1 q3 ⊢; omega) | (have q1 := hb1.size; have q3 := hb3.size; simp at q1 ⊢; omega))).trans ?_ | refine (hb3.block _ (by first | (simp; done) | (simp; omega) | (have q1 := hb1.size; have q3 := hb3.size; simp at q1 q3 ⊢; omega) | (have q1 := hb1.size; have q3 := hb3.size; simp at q1 ⊢; omega))).trans ?_))), HD3.out _ (by have q1 := hb1.size; have q3 := hb3.size; (try simp at q1); (try simp at q3); (first | omega | (simp; done) | (simp; omega))) (fun k hk => by repeat (first | exact rfl | refine (row_other rfl (by have q1 := hb1.size; have q3 := hb3.size; have qL := HLE.out wc (Below.refl _ _); (try simp at q1); (try simp at q3); (try simp at hk); (first | omega | (simp; done) | (simp; omega)))).trans ?_ | refine (Below.heap_alloc _ _ _ (by have q1 := hb1.size; have q3 := hb3.size; have qL := HLE.out wc (Below.refl _ _); (try simp at q1); (try simp at q3); (try simp at hk); (first | omega | (simp; done) | (simp; omega)))).trans ?_ | refine (hb3.block _ (by have q1 := hb1.size; have q3 := hb3.size; have qL := HLE.out wc (Below.refl _ _); (try simp at q1); (try simp at q3); (try simp at hk); (first | omega | (simp; done) | (simp; omega)))).trans ?_))⟩⟩⟩
    · go_simp
      refine hK.out _ _ (below_tr hHeld ((Below.refl _ _).alloc (Nat.le_refl _) _)) (fun hHeld => ?_)
      clear hK K
      try simp only [Act.put, List.setIfInBounds_toArray, List.set_cons_zero, List.set_cons_succ]
      refine wpAnyH_ready (rs := [1, 4]) (by kernel_rfl) (by simp) ?_
      refine (AllReadyH.cons rfl (fun K hK => ?_) (AllReadyH.cons rfl (fun K hK => ?_) AllReadyH.nil))
      · go_simp
        refine (extDocT x L _ _ (HVX.out _ hHeld) (HLE.out _ hHeld)).mono ?_
        rintro e1 w1 ⟨hb1, Ka, ta, ma, na, ba, ha, bsa, bva, kaa, kna, kca, kba, koa, Ca, rfl, hcl1⟩
        have HD1 := Lib.hid hcl1
        have HO1 := Lib.hid (hcl1 w1 (Nat.le_refl _) (fun _ _ => rfl)).v.size.2
        have hbi := hb1
        clear hcl1
        refine hK.out _ _ (below_tr hHeld hbi) (fun hHeld => ?_)
        clear hK K
        try simp only [Act.put, List.setIfInBounds_toArray, List.set_cons_zero, List.set_cons_succ]
        refine wpAnyH_ready (rs := [3, 4]) (by kernel_rfl) (by simp) ?_
        refine (AllReadyH.cons rfl (fun K hK => ?_) (AllReadyH.cons rfl (fun K hK => ?_) AllReadyH.nil))
        · go_simp
          refine (extDocT y L _ _ (HVY.out _ hHeld) (HLE.out _ hHeld)).mono ?_
          rintro e3 w3 ⟨hb3, Kb, tb, mb, nb, bb, hb', bsb, bvb, kab, knb, kcb, kbb, kob, Cb, rfl, hcl3⟩
          have HD3 := Lib.hid hcl3
          have HO3 := Lib.hid (hcl3 w3 (Nat.le_refl _) (fun _ _ => rfl)).v.size.2
          have hbi := hb3
          clear hcl3
          refine hK.out _ _ (below_tr hHeld hbi) (fun hHeld => ?_)
          clear hK K
          try simp only [Act.put, List.setIfInBounds_toArray, List.set_cons_zero, List.set_cons_succ]
          refine wpAnyH_ready (rs := [4]) (by kernel_rfl) (by simp) ?_
          refine (AllReadyH.cons rfl (fun K hK => ?_) AllReadyH.nil)
          go_simp
          refine hK.out _ _ (below_tr hHeld ((Below.refl _ _).alloc (Nat.le_refl _) _)) (fun hHeld => ?_)
          clear hK K
          try simp only [Act.put, List.setIfInBounds_toArray, List.set_cons_zero, List.set_cons_succ]
          refine wpAnyH_ready (rs := [6]) (by kernel_rfl) (by simp) ?_
          refine (AllReadyH.cons rfl (fun K hK => ?_) AllReadyH.nil)
          refine step_store_row rfl 26 (.tmp 7) (.tmp 25) rfl _ _ rfl rfl 26 Zero26 (by repeat (first | exact heap_alloc_new _ _ | exact heap_alloc2_new _ _ _ | exact hst | refine (Below.heap_alloc _ _ _ (by first | (simp; done) | (simp; omega) | (have q1 := hb1.size; have q3 := hb3.size; simp at q1 q3 ⊢; omega) | (have q1 := hb1.size; have q3 := hb3.size; simp at q1 ⊢; omega))).trans ?_ | refine (hb1.block _ (by first | (simp; done) | (simp; omega) | (have q1 := hb1.size; have q3 := hb3.size; simp at q1 q3 ⊢; omega) | (have q1 := hb1.size; have q3 := hb3.size; simp at q1 ⊢; omega))).trans ?_ | refine (hb3.block _ (by first | (simp; done) | (simp; omega) | (have q1 := hb1.size; have q3 := hb3.size; simp at q1 q3 ⊢; omega) | (have q1 := hb1.size; have q3 := hb3.size; simp at q1 ⊢; omega))).trans ?_)) info26v rfl HO1.out ?_
          refine hK.out _ _ (below_setRow hHeld (by first | (simp; done) | (simp; omega) | (have q1 := hb1.size; have q3 := hb3.size; simp at q1 q3 ⊢; omega) | (have q1 := hb1.size; have q3 := hb3.size; simp at q1 ⊢; omega)) _) (fun hHeld => ?_)
          clear hK K
          try simp only [Act.put, List.setIfInBounds_toArray, List.set_cons_zero, List.set_cons_succ]
          refine wpAnyH_ready (rs := [7]) (by kernel_rfl) (by simp) ?_
          refine (AllReadyH.cons rfl (fun K hK => ?_) AllReadyH.nil)
          refine step_store_row rfl 26 (.tmp 8) (.tmp 27) rfl _ _ rfl rfl 26 Zero26 ((row_other rfl (by first | (simp; done) | (simp; omega) | (have q1 := hb1.size; have q3 := hb3.size; simp at q1 q3 ⊢; omega) | (have q1 := hb1.size; have q3 := hb3.size; simp at q1 ⊢; omega))).trans (by repeat (first | exact heap_alloc_new _ _ | exact heap_alloc2_new _ _ _ | exact hst | refine (Below.heap_alloc _ _ _ (by first | (simp; done) | (simp; omega) | (have q1 := hb1.size; have q3 := hb3.size; simp at q1 q3 ⊢; omega) | (have q1 := hb1.size; have q3 := hb3.size; simp at q1 ⊢; omega))).trans ?_ | refine (hb1.block _ (by first | (simp; done) | (simp; omega) | (have q1 := hb1.size; have q3 := hb3.size; simp at q1 q3 ⊢; omega) | (have q1 := hb1.size; have q3 := hb3.size; simp at q1 ⊢; omega))).trans ?_ | refine (hb3.block _ (by first | (simp; done) | (simp; omega) | (have q1 := hb1.size; have q3 := hb3.size; simp at q1 q3 ⊢; omega) | (have q1 := hb1.size; have q3 := hb3.size; simp at q1 ⊢; omega))).trans ?_))) info26v rfl HO3.out ?_
          refine hK.out _ _ (below_setRow hHeld (by first | (simp; done) | (simp; omega) | (have q1 := hb1.size; have q3 := hb3.size; simp at q1 q3 ⊢; omega) | (have q1 := hb1.size; have q3 := hb3.size; simp at q1 ⊢; omega)) _) (fun hHeld => ?_)
          clear hK K
          try simp only [Act.put, List.setIfInBounds_toArray, List.set_cons_zero, List.set_cons_succ]
          refine wpAnyH_done (by kernel_rfl) ?_ _
          refine NoPanic.normal ?_
          go_wp2
          go_meet
          exact Lib.hid ⟨_, _, rfl, rfl, ⟨hHeld, (by have q1 := hb1.size; have q3 := hb3.size; (try simp at q1); (try simp at q3); (first | omega | (simp; done) | (simp; omega))), ⟨Ka, ta, ma, na, ba, ha, bsa, bva, kaa, kna, kca, kba, koa, Ca, (row_other rfl (by have q1 := hb1.size; have q3 := hb3.size; (try simp at q1); (try simp at q3); (first | omega | (simp; done) | (simp; omega)))).trans (setRow_heap _ _ _ _ _ _ (by repeat (first | exact heap_alloc_new _ _ | exact heap_alloc2_new _ _ _ | exact hst | refine (Below.heap_alloc _ _ _ (by first | (simp; done) | (simp; omega) | (have q1 := hb1.size; have q3 := hb3.size; simp at q1 q3 ⊢; omega) | (have q1 := hb1.size; have q3 := hb3.size; simp at q1 ⊢; omega))).trans ?_ | refine (hb1.block _ (by first | (simp; done) | (simp; omega) | (have q1 := hb1.size; have q3 := hb3.size; simp at q1 q3 ⊢; omega) | (have q1 := hb1.size; have q3 := hb3.size; simp at q1 ⊢; omega))).trans ?_ | refine (hb3.block _ (by first | (simp; done) | (simp; omega) | (have q1 := hb1.size; have q3 := hb3.size; simp at q1 q3 ⊢; omega) | (have q1 := hb1.size; have q3 := hb3.size; simp at q1 ⊢; omega))).trans ?_))), HD1.out _ (by have q1 := hb1.size; have q3 := hb3.size; (try simp at q1); (try simp at q3); (first | omega | (simp; done) | (simp; omega))) (fun k hk => by repeat (first | exact rfl | refine (row_other rfl (by have q1 := hb1.size; have q3 := hb3.size; have qL := HLE.out wc (Below.refl _ _); (try simp at q1); (try simp at q3); (try simp at hk); (first | omega | (simp; done) | (simp; omega)))).trans ?_ | refine (Below.heap_alloc _ _ _ (by have q1 := hb1.size; have q3 := hb3.size; have qL := HLE.out wc (Below.refl _ _); (try simp at q1); (try simp at q3); (try simp at hk); (first | omega | (simp; done) | (simp; omega)))).trans ?_ | refine (hb3.block _ (by have q1 := hb1.size; have q3 := hb3.size; have qL := HLE.out wc (Below.refl _ _); (try simp at q1); (try simp at q3); (try simp at hk); (first | omega | (simp; done) | (simp; omega)))).trans ?_))⟩, ⟨Kb, tb, mb, nb, bb, hb', bsb, bvb, kab, knb, kcb, kbb, kob, Cb, setRow_heap _ _ _ _ _ _ ((row_other rfl (by first | (simp; done) | (simp; omega) | (have q1 := hb1.size; have q3 := hb3.size; simp at q1 q3 ⊢; omega) | (have q1 := hb1.size; have q3 := hb3.size; simp at q1 ⊢; omega))).trans (by repeat (first | exact heap_alloc_new _ _ | exact heap_alloc2_new _ _ _ | exact hst | refine (Below.heap_alloc _ _ _ (by first | (simp; done) | (simp; omega) | (have q1 := hb1.size; have q3 := hb3.size; simp at q1 q3 ⊢; omega) | (have q1 := hb1.size; have q3 := hb3.size; simp at q1 ⊢; omega))).trans ?_ | refine (hb1.block _ (by first | (simp; done) | (simp; omega) | (have q1 := hb1.size; have q3 := hb3.size; simp at q1 q3 ⊢; omega) | (have q1 := hb1.size; have q3 := hb3.size; simp at q1 ⊢; omega))).trans ?_ | refine (hb3.block _ (by first | (simp; done) | (simp; omega) | (have q1 := hb1.size; have q3 := hb3.size; simp at q1 q3 ⊢; omega) | (have q1 := hb1.size; have q3 := hb3.size; simp at q1 ⊢; omega))).trans ?_))), HD3.out _ (by have q1 := hb1.size; have q3 := hb3.size; (try simp at q1); (try simp at q3); (first | omega | (simp; done) | (simp; omega))) (fun k hk => by repeat (first | exact rfl | refine (row_other rfl (by have q1 := hb1.size; have q3 := hb3.size; have qL := HLE.out wc (Below.refl _ _); (try simp at q1); (try simp at q3); (try simp at hk); (first | omega | (simp; done) | (simp; omega)))).trans ?_ | refine (Below.heap_alloc _ _ _ (by have q1 := hb1.size; have q3 := hb3.size; have qL := HLE.out wc (Below.refl _ _); (try simp at q1); (try simp at q3); (try simp at hk); (first | omega | (simp; done) | (simp; omega)))).trans ?_ | refine (hb3.block _ (by have q1 := hb1.size; have q3 := hb3.size; have qL := HLE.out wc (Below.refl _ _); (try simp at q1); (try simp at q3); (try simp at hk); (first | omega | (simp; done) | (simp; omega)))).trans ?_))⟩⟩⟩
        · go_simp
          refine hK.out _ _ (below_tr hHeld ((Below.refl _ _).alloc (Nat.le_refl _) _)) (fun hHeld => ?_)
          clear hK K
          try simp only [Act.put, List.setIfInBounds_toArray, List.set_cons_zero, List.set_cons_succ]
          refine wpAnyH_ready (rs := [3]) (by kernel_rfl) (by simp) ?_
          refine (AllReadyH.cons rfl (fun K hK => ?_) AllReadyH.nil)
          go_simp
          refine (extDocT y L _ _ (HVY.out _ hHeld) (HLE.out _ hHeld)).mono ?_
          rintro e3 w3 ⟨hb3, Kb, tb, mb, nb, bb, hb', bsb, bvb, kab, knb, kcb, kbb, kob, Cb, rfl, hcl3⟩
          have HD3 := Lib.hid hcl3
          have HO3 := Lib.hid (hcl3 w3 (Nat.le_refl _) (fun _ _ => rfl)).v.size.2
          have hbi := hb3
          clear hcl3
          refine hK.out _ _ (below_tr hHeld hbi) (fun hHeld => ?_)
          clear hK K
          try simp only [Act.put, List.setIfInBounds_toArray, List.set_cons_zero, List.set_cons_succ]
          refine wpAnyH_ready (rs := [6]) (by kernel_rfl) (by simp) ?_
          refine (AllReadyH.cons rfl (fun K hK => ?_) AllReadyH.nil)
          refine step_store_row rfl 26 (.tmp 7) (.tmp 25) rfl _ _ rfl rfl 26 Zero26 (by repeat (first | exact heap_alloc_new _ _ | exact heap_alloc2_new _ _ _ | exact hst | refine (Below.heap_alloc _ _ _ (by first | (simp; done) | (simp; omega) | (have q1 := hb1.size; have q3 := hb3.size; simp at q1 q3 ⊢; omega) | (have q1 := hb1.size; have q3 := hb3.size; simp at q1 ⊢; omega))).trans ?_ | refine (hb1.block _ (by first | (simp; done) | (simp; omega) | (have q1 := hb1.size; have q3 := hb3.size; simp at q1 q3 ⊢; omega) | (have q1 := hb1.size; have q3 := hb3.size; simp at q1 ⊢; omega))).trans ?_ | refine (hb3.block _ (by first | (simp; done) | (simp; omega) | (have q1 := hb1.size; have q3 := hb3.size; simp at q1 q3 ⊢; omega) | (have q1 := hb1.size; have q3 := hb3.size; simp at q1 ⊢; omega))).trans ?_)) info26v rfl HO1.out ?_
          refine hK.out _ _ (below_setRow hHeld (by first | (simp; done) | (simp; omega) | (have q1 := hb1.size; have q3 := hb3.size; simp at q1 q3 ⊢; omega) | (have q1 := hb1.size; have q3 := hb3.size; simp at q1 ⊢; omega)) _) (fun hHeld => ?_)
          clear hK K
          try simp only [Act.put, List.setIfInBounds_toArray, List.set_cons_zero, List.set_cons_succ]
          refine wpAnyH_ready (rs := [7]) (by kernel_rfl) (by simp) ?_
          refine (AllReadyH.cons rfl (fun K hK => ?_) AllReadyH.nil)
          refine step_store_row rfl 26 (.tmp 8) (.tmp 27) rfl _ _ rfl rfl 26 Zero26 ((row_other rfl (by first | (simp; done) | (simp; omega) | (have q1 := hb1.size; have q3 := hb3.size; simp at q1 q3 ⊢; omega) | (have q1 := hb1.size; have q3 := hb3.size; simp at q1 ⊢; omega))).trans (by repeat (first | exact heap_alloc_new _ _ | exact heap_alloc2_new _ _ _ | exact hst | refine (Below.heap_alloc _ _ _ (by first | (simp; done) | (simp; omega) | (have q1 := hb1.size; have q3 := hb3.size; simp at q1 q3 ⊢; omega) | (have q1 := hb1.size; have q3 := hb3.size; simp at q1 ⊢; omega))).trans ?_ | refine (hb1.block _ (by first | (simp; done) | (simp; omega) | (have q1 := hb1.size; have q3 := hb3.size; simp at q1 q3 ⊢; omega) | (have q1 := hb1.size; have q3 := hb3.size; simp at q1 ⊢; omega))).trans ?_ | refine (hb3.block _ (by first | (simp; done) | (simp; omega) | (have q1 := hb1.size; have q3 := hb3.size; simp at q1 q3 ⊢; omega) | (have q1 := hb1.size; have q3 := hb3.size; simp at q1 ⊢; omega))).trans ?_))) info26v rfl HO3.out ?_
          refine hK.out _ _ (below_setRow hHeld (by first | (simp; done) | (simp; omega) | (have q1 := hb1.size; have q3 := hb3.size; simp at q1 q3 ⊢; omega) | (have q1 := hb1.size; have q3 := hb3.size; simp at q1 ⊢; omega)) _) (fun hHeld => ?_)
          clear hK K
          try simp only [Act.put, List.setIfInBounds_toArray, List.set_cons_zero, List.set_cons_succ]
          refine wpAnyH_done (by kernel_rfl) ?_ _
          refine NoPanic.normal ?_
          go_wp2
          go_meet
          exact Lib.hid ⟨_, _, rfl, rfl, ⟨hHeld, (by have q1 := hb1.size; have q3 := hb3.size; (try simp at q1); (try simp at q3); (first | omega | (simp; done) | (simp; omega))), ⟨Ka, ta, ma, na, ba, ha, bsa, bva, kaa, kna, kca, kba, koa, Ca, (row_other rfl (by have q1 := hb1.size; have q3 := hb3.size; (try simp at q1); (try simp at q3); (first | omega | (simp; done) | (simp; omega)))).trans (setRow_heap _ _ _ _ _ _ (by repeat (first | exact heap_alloc_new _ _ | exact heap_alloc2_new _ _ _ | exact hst | refine (Below.heap_alloc _ _ _ (by first | (simp; done) | (simp; omega) | (have q1 := hb1.size; have q3 := hb3.size; simp at q1 q3 ⊢; omega) | (have q1 := hb1.size; have q3 := hb3.size; simp at q1 ⊢; omega))).trans ?_ | refine (hb1.block _ (by first | (simp; done) | (simp; omega) | (have q1 := hb1.size; have q3 := hb3.size; simp at q1 q3 ⊢; omega) | (have q1 := hb1.size; have q3 := hb3.size; simp at q1 ⊢; omega))).trans ?_ | refine (hb3.block _ (by first | (simp; done) | (simp; omega) | (have q1 := hb1.size; have q3 := hb3.size; simp at q1 q3 ⊢; omega) | (have q1 := hb1.size; have q3 := hb3.size; simp at q1 ⊢; omega))).trans ?_))), HD1.out _ (by have q1 := hb1.size; have q3 := hb3.size; (try simp at q1); (try simp at q3); (first | omega | (simp; done) | (simp; omega))) (fun k hk => by repeat (first | exact rfl | refine (row_other rfl (by have q1 := hb1.size; have q3 := hb3.size; have qL := HLE.out wc (Below.refl _ _); (try simp at q1); (try simp at q3); (try simp at hk); (first | omega | (simp; done) | (simp; omega)))).trans ?_ | refine (Below.heap_alloc _ _ _ (by have q1 := hb1.size; have q3 := hb3.size; have qL := HLE.out wc (Below.refl _ _); (try simp at q1); (try simp at q3); (try simp at hk); (first | omega | (simp; done) | (simp; omega)))).trans ?_ | refine (hb3.block _ (by have q1 := hb1.size; have q3 := hb3.size; have qL := HLE.out wc (Below.refl _ _); (try simp at q1); (try simp at q3); (try simp at hk); (first | omega | (simp; done) | (simp; omega)))).trans ?_))⟩, ⟨Kb, tb, mb, nb, bb, hb', bsb, bvb, kab, knb, kcb, kbb, kob, Cb, setRow_heap _ _ _ _ _ _ ((row_other rfl (by first | (simp; done) | (simp; omega) | (have q1 := hb1.size; have q3 := hb3.size; simp at q1 q3 ⊢; omega) | (have q1 := hb1.size; have q3 := hb3.size; simp at q1 ⊢; omega))).trans (by repeat (first | exact heap_alloc_new _ _ | exact heap_alloc2_new _ _ _ | exact hst | refine (Below.heap_alloc _ _ _ (by first | (simp; done) | (simp; omega) | (have q1 := hb1.size; have q3 := hb3.size; simp at q1 q3 ⊢; omega) | (have q1 := hb1.size; have q3 := hb3.size; simp at q1 ⊢; omega))).trans ?_ | refine (hb1.block _ (by first | (simp; done) | (simp; omega) | (have q1 := hb1.size; have q3 := hb3.size; simp at q1 q3 ⊢; omega) | (have q1 := hb1.size; have q3 := hb3.size; simp at q1 ⊢; omega))).trans ?_ | refine (hb3.block _ (by first | (simp; done) | (simp; omega) | (have q1 := hb1.size; have q3 := hb3.size; simp at q1 q3 ⊢; omega) | (have q1 := hb1.size; have q3 := hb3.size; simp at q1 ⊢; omega))).trans ?_))), HD3.out _ (by have q1 := hb1.size; have q3 := hb3.size; (try simp at q1); (try simp at q3); (first | omega | (simp; done) | (simp; omega))) (fun k hk => by repeat (first | exact rfl | refine (row_other rfl (by have q1 := hb1.size; have q3 := hb3.size; have qL := HLE.out wc (Below.refl _ _); (try simp at q1); (try simp at q3); (try simp at hk); (first | omega | (simp; done) | (simp; omega)))).trans ?_ | refine (Below.heap_alloc _ _ _ (by have q1 := hb1.size; have q3 := hb3.size; have qL := HLE.out wc (Below.refl _ _); (try simp at q1); (try simp at q3); (try simp at hk); (first | omega | (simp; done) | (simp; omega)))).trans ?_ | refine (hb3.block _ (by have q1 := hb1.size; have q3 := hb3.size; have qL := HLE.out wc (Below.refl _ _); (try simp at q1); (try simp at q3); (try simp at hk); (first | omega | (simp; done) | (simp; omega)))).trans ?_))⟩⟩⟩
      · go_simp
        refine hK.out _ _ (below_tr hHeld ((Below.refl _ _).alloc (Nat.le_refl _) _)) (fun hHeld => ?_)
        clear hK K
        try simp only [Act.put, List.setIfInBounds_toArray, List.set_cons_zero, List.set_cons_succ]
        refine wpAnyH_ready (rs := [1]) (by kernel_rfl) (by simp) ?_
        refine (AllReadyH.cons rfl (fun K hK => ?_) AllReadyH.nil)
        go_simp
        refine (extDocT x L _ _ (HVX.out _ hHeld) (HLE.out _ hHeld)).mono ?_
        rintro e1 w1 ⟨hb1, Ka, ta, ma, na, ba, ha, bsa, bva, kaa, kna, kca, kba, koa, Ca, rfl, hcl1⟩
        have HD1 := Lib.hid hcl1
        have HO1 := Lib.hid (hcl1 w1 (Nat.le_refl _) (fun _ _ => rfl)).v.size.2
        have hbi := hb1
        clear hcl1
        refine hK.out _ _ (below_tr hHeld hbi) (fun hHeld => ?_)
        clear hK K
        try simp only [Act.put, List.setIfInBounds_toArray, List.set_cons_zero, List.set_cons_succ]
        refine wpAnyH_ready (rs := [3]) (by kernel_rfl) (by simp) ?_
        refine (AllReadyH.cons rfl (fun K hK => ?_) AllReadyH.nil)
        go_simp
        refine (extDocT y L _ _ (HVY.out _ hHeld) (HLE.out _ hHeld)).mono ?_
        rintro e3 w3 ⟨hb3, Kb, tb, mb, nb, bb, hb', bsb, bvb, kab, knb, kcb, kbb, kob, Cb, rfl, hcl3⟩
        have HD3 := Lib.hid hcl3
        have HO3 := Lib.hid (hcl3 w3 (Nat.le_refl _) (fun _ _ => rfl)).v.size.2
        have hbi := hb3
        clear hcl3
        refine hK.out _ _ (below_tr hHeld hbi) (fun hHeld => ?_)
        clear hK K
        try simp only [Act.put, List.setIfInBounds_toArray, List.set_cons_zero, List.set_cons_succ]
        refine wpAnyH_ready (rs := [6]) (by kernel_rfl) (by simp) ?_
        refine (AllReadyH.cons rfl (fun K hK => ?_) AllReadyH.nil)
        refine step_store_row rfl 26 (.tmp 7) (.tmp 25) rfl _ _ rfl rfl 26 Zero26 (by repeat (first | exact heap_alloc_new _ _ | exact heap_alloc2_new _ _ _ | exact hst | refine (Below.heap_alloc _ _ _ (by first | (simp; done) | (simp; omega) | (have q1 := hb1.size; have q3 := hb3.size; simp at q1 q3 ⊢; omega) | (have q1 := hb1.size; have q3 := hb3.size; simp at q1 ⊢; omega))).trans ?_ | refine (hb1.block _ (by first | (simp; done) | (simp; omega) | (have q1 := hb1.size; have q3 := hb3.size; simp at q1 q3 ⊢; omega) | (have q1 := hb1.size; have q3 := hb3.size; simp at q1 ⊢; omega))).trans ?_ | refine (hb3.block _ (by first | (simp; done) | (simp; omega) | (have q1 := hb1.size; have q3 := hb3.size; simp at q1 q3 ⊢; omega) | (have q1 := hb1.size; have q3 := hb3.size; simp at q1 ⊢; omega))).trans ?_)) info26v rfl HO1.out ?_
        refine hK.out _ _ (below_setRow hHeld (by first | (simp; done) | (simp; omega) | (have q1 := hb1.size; have q3 := hb3.size; simp at q1 q3 ⊢; omega) | (have q1 := hb1.size; have q3 := hb3.size; simp at q1 ⊢; omega)) _) (fun hHeld => ?_)
        clear hK K
        try simp only [Act.put, List.setIfInBounds_toArray, List.set_cons_zero, List.set_cons_succ]
        refine wpAnyH_ready (rs := [7]) (by kernel_rfl) (by simp) ?_
        refine (AllReadyH.cons rfl (fun K hK => ?_) AllReadyH.nil)
        refine step_store_row rfl 26 (.tmp 8) (.tmp 27) rfl _ _ rfl rfl 26 Zero26 ((row_other rfl (by first | (simp; done) | (simp; omega) | (have q1 := hb1.size; have q3 := hb3.size; simp at q1 q3 ⊢; omega) | (have q1 := hb1.size; have q3 := hb3.size; simp at q1 ⊢; omega))).trans (by repeat (first | exact heap_alloc_new _ _ | exact heap_alloc2_new _ _ _ | exact hst | refine (Below.heap_alloc _ _ _ (by first | (simp; done) | (simp; omega) | (have q1 := hb1.size; have q3 := hb3.size; simp at q1 q3 ⊢; omega) | (have q1 := hb1.size; have q3 := hb3.size; simp at q1 ⊢; omega))).trans ?_ | refine (hb1.block _ (by first | (simp; done) | (simp; omega) | (have q1 := hb1.size; have q3 := hb3.size; simp at q1 q3 ⊢; omega) | (have q1 := hb1.size; have q3 := hb3.size; simp at q1 ⊢; omega))).trans ?_ | refine (hb3.block _ (by first | (simp; done) | (simp; omega) | (have q1 := hb1.size; have q3 := hb3.size; simp at q1 q3 ⊢; omega) | (have q1 := hb1.size; have q3 := hb3.size; simp at q1 ⊢; omega))).trans ?_))) info26v rfl HO3.out ?_
        refine hK.out _ _ (below_setRow hHeld (by first | (simp; done) | (simp; omega) | (have q1 := hb1.size; have q3 := hb3.size; simp at q1 q3 ⊢; omega) | (have q1 := hb1.size; have q3 := hb3.size; simp at q1 ⊢; omega)) _) (fun hHeld => ?_)
        clear hK K
        try simp only [Act.put, List.setIfInBounds_toArray, List.set_cons_zero, List.set_cons_succ]
        refine wpAnyH_done (by kernel_rfl) ?_ _
        refine NoPanic.normal ?_
        go_wp2
        go_meet
        exact Lib.hid ⟨_, _, rfl, rfl, ⟨hHeld, (by have q1 := hb1.size; have q3 := hb3.size; (try simp at q1); (try simp at q3); (first | omega | (simp; done) | (simp; omega))), ⟨Ka, ta, ma, na, ba, ha, bsa, bva, kaa, kna, kca, kba, koa, Ca, (row_other rfl (by have q1 := hb1.size; have q3 := hb3.size; (try simp at q1); (try simp at q3); (first | omega | (simp; done) | (simp; omega)))).trans (setRow_heap _ _ _ _ _ _ (by repeat (first | exact heap_alloc_new _ _ | exact heap_alloc2_new _ _ _ | exact hst | refine (Below.heap_alloc _ _ _ (by first | (simp; done) | (simp; omega) | (have q1 := hb1.size; have q3 := hb3.size; simp at q1 q3 ⊢; omega) | (have q1 := hb1.size; have q3 := hb3.size; simp at q1 ⊢; omega))).trans ?_ | refine (hb1.block _ (by first | (simp; done) | (simp; omega) | (have q1 := hb1.size; have q3 := hb3.size; simp at q1 q3 ⊢; omega) | (have q1 := hb1.size; have q3 := hb3.size; simp at q1 ⊢; omega))).trans ?_ | refine (hb3.block _ (by first | (simp; done) | (simp; omega) | (have q1 := hb1.size; have q3 := hb3.size; simp at q1 q3 ⊢; omega) | (have q1 := hb1.size; have q3 := hb3.size; simp at q1 ⊢; omega))).trans ?_))), HD1.out _ (by have q1 := hb1.size; have q3 := hb3.size; (try simp at q1); (try simp at q3); (first | omega | (simp; done) | (simp; omega))) (fun k hk => by repeat (first | exact rfl | refine (row_other rfl (by have q1 := hb1.size; have q3 := hb3.size; have qL := HLE.out wc (Below.refl _ _); (try simp at q1); (try simp at q3); (try simp at hk); (first | omega | (simp; done) | (simp; omega)))).trans ?_ | refine (Below.heap_alloc _ _ _ (by have q1 := hb1.size; have q3 := hb3.size; have qL := HLE.out wc (Below.refl _ _); (try simp at q1); (try simp at q3); (try simp at hk); (first | omega | (simp; done) | (simp; omega)))).trans ?_ | refine (hb3.block _ (by have q1 := hb1.size; have q3 := hb3.size; have qL := HLE.out wc (Below.refl _ _); (try simp at q1); (try simp at q3); (try simp at hk); (first | omega | (simp; done) | (simp; omega)))).trans ?_))⟩, ⟨Kb, tb, mb, nb, bb, hb', bsb, bvb, kab, knb, kcb, kbb, kob, Cb, setRow_heap _ _ _ _ _ _ ((row_other rfl (by first | (simp; done) | (simp; omega) | (have q1 := hb1.size; have q3 := hb3.size; simp at q1 q3 ⊢; omega) | (have q1 := hb1.size; have q3 := hb3.size; simp at q1 ⊢; omega))).trans (by repeat (first | exact heap_alloc_new _ _ | exact heap_alloc2_new _ _ _ | exact hst | refine (Below.heap_alloc _ _ _ (by first | (simp; done) | (simp; omega) | (have q1 := hb1.size; have q3 := hb3.size; simp at q1 q3 ⊢; omega) | (have q1 := hb1.size; have q3 := hb3.size; simp at q1 ⊢; omega))).trans ?_ | refine (hb1.block _ (by first | (simp; done) | (simp; omega) | (have q1 := hb1.size; have q3 := hb3.size; simp at q1 q3 ⊢; omega) | (have q1 := hb1.size; have q3 := hb3.size; simp at q1 ⊢; omega))).trans ?_ | refine (hb3.block _ (by first | (simp; done) | (simp; omega) | (have q1 := hb1.size; have q3 := hb3.size; simp at q1 q3 ⊢; omega) | (have q1 := hb1.size; have q3 := hb3.size; simp at q1 ⊢; omega))).trans ?_))), HD3.out _ (by have q1 := hb1.size; have q3 := hb3.size; (try simp at q1); (try simp at q3); (first | omega | (simp; done) | (simp; omega))) (fun k hk => by repeat (first | exact rfl | refine (row_other rfl (by have q1 := hb1.size; have q3 := hb3.size; have qL := HLE.out wc (Below.refl _ _); (try simp at q1); (try simp at q3); (try simp at hk); (first | omega | (simp; done) | (simp; omega)))).trans ?_ | refine (Below.heap_alloc _ _ _ (by have q1 := hb1.size; have q3 := hb3.size; have qL := HLE.out wc (Below.refl _ _); (try simp at q1); (try simp at q3); (try simp at hk); (first | omega | (simp; done) | (simp; omega)))).trans ?_ | refine (hb3.block _ (by have q1 := hb1.size; have q3 := hb3.size; have qL := HLE.out wc (Below.refl _ _); (try simp at q1); (try simp at q3); (try simp at hk); (first | omega | (simp; done) | (simp; omega)))).trans ?_))⟩⟩⟩
  case rest =>
  obtain ⟨g1, g2, rfl, rfl, hp⟩ := hcut.out
  clear hcut
  obtain ⟨Ka, ta, ma, na, ba, ha, bsa, bva, kaa, kna, kca, kba, koa, Ca, hda⟩ := hp.a
  obtain ⟨Kb, tb, mb, nb, bb, hb', bsb, bvb, kab, knb, kcb, kbb, kob, Cb, hdb⟩ := hp.b
  obtain ⟨wd, hwd⟩ : ∃ wd, wd = wc := ⟨_, rfl⟩
  subst hwd
  have HP := Lib.hid (And.intro hp.bel hp.ne)
  have HDA := Lib.hid hda
  have HDB := Lib.hid hdb
  clear hp hda hdb
  have hsz := And.intro (show kna ≤ 2147483647 by have := HDA.out.d.r.fn; have := HSZ.out.1; omega) (show knb ≤ 2147483647 by have := HDB.out.d.r.fn; have := HSZ.out.2; omega)
  have HN := Lib.hid hsz
  clear hsz
  have hna := fun (W : World) (hb : Below wd.heap.size wd W) => (HDA.out.kept hb).d.r.news
  have hnb := fun (W : World) (hb : Below wd.heap.size wd W) => (HDB.out.kept hb).d.r.news
  have HNA := Lib.hid hna
  have HNB := Lib.hid hnb
  have hca := fun (W : World) (hb : Below wd.heap.size wd W) => (cells8 (HDA.out.kept hb).hg).2.2.2.2.2.2.2.1
  have hcb := fun (W : World) (hb : Below wd.heap.size wd W) => (cells8 (HDB.out.kept hb).hg).2.2.2.2.2.2.2.1
  have HCA := Lib.hid hca
  have HCB := Lib.hid hcb
  have HRW := Lib.hid (Rw.start wd).drew
  clear hna hnb hca hcb
  go_upto_region 4 with fail
  go_cut [9] from 28 to 35 (fun v9 wx => Hid (∃ g9 gk cap : Nat, v9 = .pointer (some ⟨g9, 0, none⟩) ∧ Below wd.heap.size wd wx ∧ wx.heap[g9]? = some (.cells (vcells 3 ⟨#[]⟩ ⟨#[]⟩ 0 0 0 (.slice none 0 0) (.slice (some ⟨gk, 0, none⟩) (kna + knb) cap)) 26 (0, 0)) ∧ wx.ownsRow wd.heap.size 33 9 (.slice (some ⟨gk, 0, none⟩) (kna + knb) cap) (kna + knb) ([] ++ kidsRow (docK x) Ca ++ kidsRow (docK y) Cb)))
  case first =>
    refine wp_region_noPanic ?_
    refine wp_region_held_drew (S := fun W => Below wd.heap.size wd W) (by kernel_rfl) (below_drew (Below.refl _ _)) (fun hHeld => ?_)
    refine takeH (i := 1) (some 29) ?vq1 rfl rfl (by kernel_rfl) (by kernel_rfl) (by kernel_rfl) (fun _ _ _ h => h) (by rfl) ?yq2 (by assumption) ?rq3
    case yq2 => intro W hSw; have hLa := HCA.out W hSw; have hLb := HCB.out W hSw; go_simp; all_goals with_reducible rfl
    try simp only [Act.put, List.setIfInBounds_toArray, List.set_cons_zero, List.set_cons_succ]
    refine takeH (i := 2) (some 30) ?vq4 rfl rfl (by kernel_rfl) (by kernel_rfl) (by kernel_rfl) (fun _ _ _ h => h) (by rfl) ?yq5 (by assumption) ?rq6
    case yq5 => intro W hSw; have hLa := HCA.out W hSw; have hLb := HCB.out W hSw; go_simp; all_goals with_reducible rfl
    try simp only [Act.put, List.setIfInBounds_toArray, List.set_cons_zero, List.set_cons_succ]
    refine takeH (i := 4) (some 32) ?vq7 rfl rfl (by kernel_rfl) (by kernel_rfl) (by kernel_rfl) (fun _ _ _ h => h) (by rfl) ?yq8 (by assumption) ?rq9
    case yq8 => intro W hSw; have hLa := HCA.out W hSw; have hLb := HCB.out W hSw; go_simp; all_goals with_reducible rfl
    try simp only [Act.put, List.setIfInBounds_toArray, List.set_cons_zero, List.set_cons_succ]
    refine takeH (i := 5) (some 33) ?vq10 rfl rfl (by kernel_rfl) (by kernel_rfl) (by kernel_rfl) (fun _ _ _ h => h) (by rfl) ?yq11 (by assumption) ?rq12
    case yq11 => intro W hSw; have hLa := HCA.out W hSw; have hLb := HCB.out W hSw; go_simp; all_goals with_reducible rfl
    try simp only [Act.put, List.setIfInBounds_toArray, List.set_cons_zero, List.set_cons_succ]
    refine wpAnyH_ready (rs := [0, 8]) (by kernel_rfl) (by simp) ?_
    refine (AllReadyH.cons rfl (fun K hK => ?_) (AllReadyH.cons rfl (fun K hK => ?_) AllReadyH.nil))
    · refine step_build0 rfl (some 28) rfl rfl HRW.out ?_
      intro g0 W28 hr0
      have HRW := Lib.hid hr0
      clear hr0
      refine hK.out _ _ (HRW.out.bel) (fun hHeld => ?_)
      clear hK K
      try simp only [Act.put, List.setIfInBounds_toArray, List.set_cons_zero, List.set_cons_succ]
      refine wpAnyH_ready (rs := [3, 8]) (by kernel_rfl) (by simp) ?_
      refine (AllReadyH.cons rfl (fun K hK => ?_) (AllReadyH.cons rfl (fun K hK => ?_) AllReadyH.nil))
      · refine step_append_kids rfl (some 31) rfl (.tmp 28) (.tmp 30) rfl HRW.out ⟨_, _, rfl⟩ kaa kna kca kba koa (kidsRow (docK x) Ca) rfl rfl (HNA.out _ HRW.out.bel).1 HDA.out.d.r.fc (HNA.out _ HRW.out.bel).2.1 (HNA.out _ HRW.out.bel).2.2 (by have := HN.out; omega) (kna) (by omega) ?_
        intro gk1 cap1 W31 hr1
        have HRW := Lib.hid hr1
        clear hr1
        refine hK.out _ _ (HRW.out.bel) (fun hHeld => ?_)
        clear hK K
        try simp only [Act.put, List.setIfInBounds_toArray, List.set_cons_zero, List.set_cons_succ]
        refine wpAnyH_ready (rs := [6, 8]) (by kernel_rfl) (by simp) ?_
        refine (AllReadyH.cons rfl (fun K hK => ?_) (AllReadyH.cons rfl (fun K hK => ?_) AllReadyH.nil))
        · refine step_append_kids rfl (some 34) rfl (.tmp 31) (.tmp 33) rfl HRW.out ⟨_, _, rfl⟩ kab knb kcb kbb kob (kidsRow (docK y) Cb) rfl rfl (HNB.out _ HRW.out.bel).1 HDB.out.d.r.fc (HNB.out _ HRW.out.bel).2.1 (HNB.out _ HRW.out.bel).2.2 (by have := HN.out; omega) (kna + knb) (by omega) ?_
          intro gk2 cap2 W34 hr2
          have HRW := Lib.hid hr2
          clear hr2
          refine hK.out _ _ (HRW.out.bel) (fun hHeld => ?_)
          clear hK K
          try simp only [Act.put, List.setIfInBounds_toArray, List.set_cons_zero, List.set_cons_succ]
          refine takeH (i := 7) (some 35) (.agg (vcells 3 ⟨#[]⟩ ⟨#[]⟩ 0 0 0 (.slice none 0 0) (.slice (some ⟨gk2, 0, none⟩) (kna + knb) cap2))) rfl rfl (by kernel_rfl) (by kernel_rfl) (by kernel_rfl) (fun _ _ _ h => h) (by rfl) (fun W hSw => x_build26 rfl rfl rfl) (by assumption) ?_
          try simp only [Act.put, List.setIfInBounds_toArray, List.set_cons_zero, List.set_cons_succ]
          refine wpAnyH_ready (rs := [8]) (by kernel_rfl) (by simp) ?_
          refine (AllReadyH.cons rfl (fun K hK => ?_) AllReadyH.nil)
          refine step_alloc26 rfl (some 9) rfl rfl HRW.out ?_
          intro g9 W9 hr9
          have HRW := Lib.hid hr9
          clear hr9
          refine hK.out _ _ (HRW.out.bel) (fun hHeld => ?_)
          clear hK K
          try simp only [Act.put, List.setIfInBounds_toArray, List.set_cons_zero, List.set_cons_succ]
          refine wpAnyH_ready (rs := [9]) (by kernel_rfl) (by simp) ?_
          refine (AllReadyH.cons rfl (fun K hK => ?_) AllReadyH.nil)
          refine step_store_row rfl 26 (.tmp 9) (.tmp 35) rfl _ _ rfl rfl 26 Zero26 (HRW.out.far _ rfl).2.2 info26v rfl (vcells_one _ _ _ _ _ _ _ _ _ _ _ _) ?_
          refine hK.out _ _ ((HRW.out.set _).1) (fun hHeld => ?_)
          clear hK K
          try simp only [Act.put, List.setIfInBounds_toArray, List.set_cons_zero, List.set_cons_succ]
          refine wpAnyH_done (by kernel_rfl) ?_ _
          refine NoPanic.normal ?_
          go_wp2
          go_meet
          exact Lib.hid ⟨_, _, _, rfl, (HRW.out.set _).1, (HRW.out.set _).2.1, (HRW.out.set _).2.2⟩
        · refine step_alloc26 rfl (some 9) rfl rfl HRW.out ?_
          intro g9 W9 hr9
          have HRW := Lib.hid hr9
          clear hr9
          refine hK.out _ _ (HRW.out.bel) (fun hHeld => ?_)
          clear hK K
          try simp only [Act.put, List.setIfInBounds_toArray, List.set_cons_zero, List.set_cons_succ]
          refine wpAnyH_ready (rs := [6]) (by kernel_rfl) (by simp) ?_
          refine (AllReadyH.cons rfl (fun K hK => ?_) AllReadyH.nil)
          refine step_append_kids rfl (some 34) rfl (.tmp 31) (.tmp 33) rfl HRW.out ⟨_, _, rfl⟩ kab knb kcb kbb kob (kidsRow (docK y) Cb) rfl rfl (HNB.out _ HRW.out.bel).1 HDB.out.d.r.fc (HNB.out _ HRW.out.bel).2.1 (HNB.out _ HRW.out.bel).2.2 (by have := HN.out; omega) (kna + knb) (by omega) ?_
          intro gk2 cap2 W34 hr2
          have HRW := Lib.hid hr2
          clear hr2
          refine hK.out _ _ (HRW.out.bel) (fun hHeld => ?_)
          clear hK K
          try simp only [Act.put, List.setIfInBounds_toArray, List.set_cons_zero, List.set_cons_succ]
          refine takeH (i := 7) (some 35) (.agg (vcells 3 ⟨#[]⟩ ⟨#[]⟩ 0 0 0 (.slice none 0 0) (.slice (some ⟨gk2, 0, none⟩) (kna + knb) cap2))) rfl rfl (by kernel_rfl) (by kernel_rfl) (by kernel_rfl) (fun _ _ _ h => h) (by rfl) (fun W hSw => x_build26 rfl rfl rfl) (by assumption) ?_
          try simp only [Act.put, List.setIfInBounds_toArray, List.set_cons_zero, List.set_cons_succ]
          refine wpAnyH_ready (rs := [9]) (by kernel_rfl) (by simp) ?_
          refine (AllReadyH.cons rfl (fun K hK => ?_) AllReadyH.nil)
          refine step_store_row rfl 26 (.tmp 9) (.tmp 35) rfl _ _ rfl rfl 26 Zero26 (HRW.out.far _ rfl).2.2 info26v rfl (vcells_one _ _ _ _ _ _ _ _ _ _ _ _) ?_
          refine hK.out _ _ ((HRW.out.set _).1) (fun hHeld => ?_)
          clear hK K
          try simp only [Act.put, List.setIfInBounds_toArray, List.set_cons_zero, List.set_cons_succ]
          refine wpAnyH_done (by kernel_rfl) ?_ _
          refine NoPanic.normal ?_
          go_wp2
          go_meet
          exact Lib.hid ⟨_, _, _, rfl, (HRW.out.set _).1, (HRW.out.set _).2.1, (HRW.out.set _).2.2⟩
      · refine step_alloc26 rfl (some 9) rfl rfl HRW.out ?_
        intro g9 W9 hr9
        have HRW := Lib.hid hr9
        clear hr9
        refine hK.out _ _ (HRW.out.bel) (fun hHeld => ?_)
        clear hK K
        try simp only [Act.put, List.setIfInBounds_toArray, List.set_cons_zero, List.set_cons_succ]
        refine wpAnyH_ready (rs := [3]) (by kernel_rfl) (by simp) ?_
        refine (AllReadyH.cons rfl (fun K hK => ?_) AllReadyH.nil)
        refine step_append_kids rfl (some 31) rfl (.tmp 28) (.tmp 30) rfl HRW.out ⟨_, _, rfl⟩ kaa kna kca kba koa (kidsRow (docK x) Ca) rfl rfl (HNA.out _ HRW.out.bel).1 HDA.out.d.r.fc (HNA.out _ HRW.out.bel).2.1 (HNA.out _ HRW.out.bel).2.2 (by have := HN.out; omega) (kna) (by omega) ?_
        intro gk1 cap1 W31 hr1
        have HRW := Lib.hid hr1
        clear hr1
        refine hK.out _ _ (HRW.out.bel) (fun hHeld => ?_)
        clear hK K
        try simp only [Act.put, List.setIfInBounds_toArray, List.set_cons_zero, List.set_cons_succ]
        refine wpAnyH_ready (rs := [6]) (by kernel_rfl) (by simp) ?_
        refine (AllReadyH.cons rfl (fun K hK => ?_) AllReadyH.nil)
        refine step_append_kids rfl (some 34) rfl (.tmp 31) (.tmp 33) rfl HRW.out ⟨_, _, rfl⟩ kab knb kcb kbb kob (kidsRow (docK y) Cb) rfl rfl (HNB.out _ HRW.out.bel).1 HDB.out.d.r.fc (HNB.out _ HRW.out.bel).2.1 (HNB.out _ HRW.out.bel).2.2 (by have := HN.out; omega) (kna + knb) (by omega) ?_
        intro gk2 cap2 W34 hr2
        have HRW := Lib.hid hr2
        clear hr2
        refine hK.out _ _ (HRW.out.bel) (fun hHeld => ?_)
        clear hK K
        try simp only [Act.put, List.setIfInBounds_toArray, List.set_cons_zero, List.set_cons_succ]
        refine takeH (i := 7) (some 35) (.agg (vcells 3 ⟨#[]⟩ ⟨#[]⟩ 0 0 0 (.slice none 0 0) (.slice (some ⟨gk2, 0, none⟩) (kna + knb) cap2))) rfl rfl (by kernel_rfl) (by kernel_rfl) (by kernel_rfl) (fun _ _ _ h => h) (by rfl) (fun W hSw => x_build26 rfl rfl rfl) (by assumption) ?_
        try simp only [Act.put, List.setIfInBounds_toArray, List.set_cons_zero, List.set_cons_succ]
        refine wpAnyH_ready (rs := [9]) (by kernel_rfl) (by simp) ?_
        refine (AllReadyH.cons rfl (fun K hK => ?_) AllReadyH.nil)
        refine step_store_row rfl 26 (.tmp 9) (.tmp 35) rfl _ _ rfl rfl 26 Zero26 (HRW.out.far _ rfl).2.2 info26v rfl (vcells_one _ _ _ _ _ _ _ _ _ _ _ _) ?_
        refine hK.out _ _ ((HRW.out.set _).1) (fun hHeld => ?_)
        clear hK K
        try simp only [Act.put, List.setIfInBounds_toArray, List.set_cons_zero, List.set_cons_succ]
        refine wpAnyH_done (by kernel_rfl) ?_ _
        refine NoPanic.normal ?_
        go_wp2
        go_meet
        exact Lib.hid ⟨_, _, _, rfl, (HRW.out.set _).1, (HRW.out.set _).2.1, (HRW.out.set _).2.2⟩
    · refine step_alloc26 rfl (some 9) rfl rfl HRW.out ?_
      intro g9 W9 hr9
      have HRW := Lib.hid hr9
      clear hr9
      refine hK.out _ _ (HRW.out.bel) (fun hHeld => ?_)
      clear hK K
      try simp only [Act.put, List.setIfInBounds_toArray, List.set_cons_zero, List.set_cons_succ]
      refine wpAnyH_ready (rs := [0]) (by kernel_rfl) (by simp) ?_
      refine (AllReadyH.cons rfl (fun K hK => ?_) AllReadyH.nil)
      refine step_build0 rfl (some 28) rfl rfl HRW.out ?_
      intro g0 W28 hr0
      have HRW := Lib.hid hr0
      clear hr0
      refine hK.out _ _ (HRW.out.bel) (fun hHeld => ?_)
      clear hK K
      try simp only [Act.put, List.setIfInBounds_toArray, List.set_cons_zero, List.set_cons_succ]
      refine wpAnyH_ready (rs := [3]) (by kernel_rfl) (by simp) ?_
      refine (AllReadyH.cons rfl (fun K hK => ?_) AllReadyH.nil)
      refine step_append_kids rfl (some 31) rfl (.tmp 28) (.tmp 30) rfl HRW.out ⟨_, _, rfl⟩ kaa kna kca kba koa (kidsRow (docK x) Ca) rfl rfl (HNA.out _ HRW.out.bel).1 HDA.out.d.r.fc (HNA.out _ HRW.out.bel).2.1 (HNA.out _ HRW.out.bel).2.2 (by have := HN.out; omega) (kna) (by omega) ?_
      intro gk1 cap1 W31 hr1
      have HRW := Lib.hid hr1
      clear hr1
      refine hK.out _ _ (HRW.out.bel) (fun hHeld => ?_)
      clear hK K
      try simp only [Act.put, List.setIfInBounds_toArray, List.set_cons_zero, List.set_cons_succ]
      refine wpAnyH_ready (rs := [6]) (by kernel_rfl) (by simp) ?_
      refine (AllReadyH.cons rfl (fun K hK => ?_) AllReadyH.nil)
      refine step_append_kids rfl (some 34) rfl (.tmp 31) (.tmp 33) rfl HRW.out ⟨_, _, rfl⟩ kab knb kcb kbb kob (kidsRow (docK y) Cb) rfl rfl (HNB.out _ HRW.out.bel).1 HDB.out.d.r.fc (HNB.out _ HRW.out.bel).2.1 (HNB.out _ HRW.out.bel).2.2 (by have := HN.out; omega) (kna + knb) (by omega) ?_
      intro gk2 cap2 W34 hr2
      have HRW := Lib.hid hr2
      clear hr2
      refine hK.out _ _ (HRW.out.bel) (fun hHeld => ?_)
      clear hK K
      try simp only [Act.put, List.setIfInBounds_toArray, List.set_cons_zero, List.set_cons_succ]
      refine takeH (i := 7) (some 35) (.agg (vcells 3 ⟨#[]⟩ ⟨#[]⟩ 0 0 0 (.slice none 0 0) (.slice (some ⟨gk2, 0, none⟩) (kna + knb) cap2))) rfl rfl (by kernel_rfl) (by kernel_rfl) (by kernel_rfl) (fun _ _ _ h => h) (by rfl) (fun W hSw => x_build26 rfl rfl rfl) (by assumption) ?_
      try simp only [Act.put, List.setIfInBounds_toArray, List.set_cons_zero, List.set_cons_succ]
      refine wpAnyH_ready (rs := [9]) (by kernel_rfl) (by simp) ?_
      refine (AllReadyH.cons rfl (fun K hK => ?_) AllReadyH.nil)
      refine step_store_row rfl 26 (.tmp 9) (.tmp 35) rfl _ _ rfl rfl 26 Zero26 (HRW.out.far _ rfl).2.2 info26v rfl (vcells_one _ _ _ _ _ _ _ _ _ _ _ _) ?_
      refine hK.out _ _ ((HRW.out.set _).1) (fun hHeld => ?_)
      clear hK K
      try simp only [Act.put, List.setIfInBounds_toArray, List.set_cons_zero, List.set_cons_succ]
      refine wpAnyH_done (by kernel_rfl) ?_ _
      refine NoPanic.normal ?_
      go_wp2
      go_meet
      exact Lib.hid ⟨_, _, _, rfl, (HRW.out.set _).1, (HRW.out.set _).2.1, (HRW.out.set _).2.2⟩
  case rest =>
  obtain ⟨g9, gk, cap, rfl, hb9, hg9, ho9⟩ := hcut.out
  clear hcut HRW HNA HNB HCA HCB
  rw [List.nil_append] at ho9
  obtain ⟨we, hwe⟩ : ∃ we, we = wc := ⟨_, rfl⟩
  subst hwe
  have hv9 := both_vat HDA.out HDB.out hb9 ho9 rfl (by have := HN.out; omega)
  have hdd := And.intro (HDA.out.kept hb9) (HDB.out.kept hb9)
  have HE := Lib.hid (And.intro hb9 hg9)
  have HV9 := Lib.hid hv9
  have HDD := Lib.hid hdd
  have hrows := fun (W : World) (hb : Below we.heap.size we W) => And.intro (hdd.1.kept hb).range (And.intro (hdd.2.kept hb).range (row_range ((hb.block _ (lt_of_heap hg9)).trans hg9)))
  have hpart := fun (W : World) (hb : Below we.heap.size we W) => And.intro ((cells8 (hdd.1.kept hb).hg).2.2.2.2.2.2.2.1) ((cells8 (hdd.2.kept hb).hg).2.2.2.2.2.2.2.1)
  have HRS := Lib.hid hrows
  have HPT := Lib.hid hpart
  have hfc := fun (W : World) (hb : Below we.heap.size we W) => extFits (.mk 3 ⟨#[]⟩ ⟨#[]⟩ 0 0 0 [] (docK x ++ docK y)) we.heap.size (.agg (vcells 3 ⟨#[]⟩ ⟨#[]⟩ 0 0 0 (.slice none 0 0) (.slice (some ⟨gk, 0, none⟩) (kna + knb) cap)).toList.toArray) W (by rw [Array.toArray_toList]; exact hv9.kept (Nat.le_refl _) (fun k hk => hb.block k hk)) hb.size
  have HFC := Lib.hid hfc
  have hbe : Below w.heap.size w we := by
    have e1 := HBW.out
    have e2 := HP.out.1
    exact (e1.trans (e2.mono e1.size)).trans (hb9.mono (Nat.le_trans e1.size e2.size))
  have HBE := Lib.hid hbe
  clear hb9 hg9 ho9 hv9 hdd hrows hpart hfc hbe
  go_upto_region 5 with fail
  go_cut [50] from 36 to 50 (fun v wx => ∃ q : Bool, v = .bool q ∧ Hid (Below we.heap.size we wx ∧ (q = false → FitP (.mk 3 ⟨#[]⟩ ⟨#[]⟩ 0 0 0 [] (docK x ++ docK y)) true ∧ 0 < kna ∧ 0 < knb)))
  case first =>
    have ways : kna = 0 ∨ (0 < kna ∧ knb = 0) ∨ (0 < kna ∧ 0 < knb) := by omega
    have HWA := Lib.hid ways
    clear ways
    rcases HWA.out with ha0 | ⟨ha0, hb0⟩ | ⟨ha0, hb0⟩
    · have f1 : ((kna : Int) == 0) = true := beq_iff_eq.2 (by omega)
      clear ha0
      go_wp2_with (first | ((with_reducible refine wpList_at (some 36) ?_); refine wpList_load_mid rfl 26 (.tmp 9) rfl g9 0 rfl (vcells 3 ⟨#[]⟩ ⟨#[]⟩ 0 0 0 (.slice none 0 0) (.slice (some ⟨gk, 0, none⟩) _ cap)).toList _ (HRS.out _ (Below.refl _ _)).2.2 Tryz.underlying26 rfl info26l ?_) | (go_at_call 6; refine (HFC.out _ (Below.refl _ _)).mono ?_; rintro e5 w5 ⟨r5, rfl, hq5, hb5⟩; obtain ⟨hp1, hp2⟩ := HPT.out _ hb5; have H5 := Lib.hid (And.intro hb5 hq5); clear hb5 hq5; cases r5))
      all_goals go_meet
      all_goals exact ⟨_, rfl, Lib.hid ⟨H5.out.1, fun e => by cases e⟩⟩
    · have f1 : ((kna : Int) == 0) = false := beq_eq_false_iff_ne.2 (by omega)
      have f2 : ((knb : Int) == 0) = true := beq_iff_eq.2 (by omega)
      clear ha0 hb0
      go_wp2_with (first | ((with_reducible refine wpList_at (some 36) ?_); refine wpList_load_mid rfl 26 (.tmp 9) rfl g9 0 rfl (vcells 3 ⟨#[]⟩ ⟨#[]⟩ 0 0 0 (.slice none 0 0) (.slice (some ⟨gk, 0, none⟩) _ cap)).toList _ (HRS.out _ (Below.refl _ _)).2.2 Tryz.underlying26 rfl info26l ?_) | (go_at_call 6; refine (HFC.out _ (Below.refl _ _)).mono ?_; rintro e5 w5 ⟨r5, rfl, hq5, hb5⟩; obtain ⟨hp1, hp2⟩ := HPT.out _ hb5; have H5 := Lib.hid (And.intro hb5 hq5); clear hb5 hq5; cases r5))
      all_goals go_meet
      all_goals exact ⟨_, rfl, Lib.hid ⟨H5.out.1, fun e => by cases e⟩⟩
    · have f1 : ((kna : Int) == 0) = false := beq_eq_false_iff_ne.2 (by omega)
      have f2 : ((knb : Int) == 0) = false := beq_eq_false_iff_ne.2 (by omega)
      have HLT := Lib.hid (And.intro ha0 hb0)
      clear ha0 hb0
      go_wp2_with (first | ((with_reducible refine wpList_at (some 36) ?_); refine wpList_load_mid rfl 26 (.tmp 9) rfl g9 0 rfl (vcells 3 ⟨#[]⟩ ⟨#[]⟩ 0 0 0 (.slice none 0 0) (.slice (some ⟨gk, 0, none⟩) _ cap)).toList _ (HRS.out _ (Below.refl _ _)).2.2 Tryz.underlying26 rfl info26l ?_) | (go_at_call 6; refine (HFC.out _ (Below.refl _ _)).mono ?_; rintro e5 w5 ⟨r5, rfl, hq5, hb5⟩; obtain ⟨hp1, hp2⟩ := HPT.out _ hb5; have H5 := Lib.hid (And.intro hb5 hq5); clear hb5 hq5; cases r5))
      all_goals go_meet
      all_goals first | exact ⟨_, rfl, Lib.hid ⟨H5.out.1, fun _ => ⟨H5.out.2, HLT.out⟩⟩⟩ | exact ⟨_, rfl, Lib.hid ⟨H5.out.1, fun e => by cases e⟩⟩
  case rest =>
  obtain ⟨q, rfl, HB5⟩ := hcut
  cases q with
  | true =>
    have hbz := below_tr HBE.out HB5.out.1
    have HBZ := Lib.hid hbz
    clear hbz
    go_wp2
    go_ret
    exact ⟨rfl, HBZ.out⟩
  | false =>
  obtain ⟨wf, hwf⟩ : ∃ wf, wf = wc := ⟨_, rfl⟩
  subst hwf
  have hq := HB5.out.2 rfl
  have hft := fit_both (hq.1 rfl)
  have hka0 : docK x ≠ [] := by
    intro e
    have h1 := HDA.out.d.r.fn
    have h2 := hq.2.1
    rw [e] at h1
    simp at h1
    omega
  have hkb0 : docK y ≠ [] := by
    intro e
    have h1 := HDB.out.d.r.fn
    have h2 := hq.2.2
    rw [e] at h1
    simp at h1
    omega
  obtain ⟨SA, hSA⟩ : ∃ s : ByteArray, s = ⟨(docX can (docK x)).toArray⟩ := ⟨_, rfl⟩
  obtain ⟨SB, hSB⟩ : ∃ s : ByteArray, s = ⟨(docX can (docK y)).toArray⟩ := ⟨_, rfl⟩
  obtain ⟨SU, hSU⟩ : ∃ s : ByteArray, s = ⟨(docX can (docK x ++ docK y)).toArray⟩ := ⟨_, rfl⟩
  have h3 := three can (docK x) (docK y) hft.1 hft.2.1 hft.2.2.1 hft.2.2.2 hka0 hkb0 SA SB SU hSA hSB hSU
  have hw1 : ∀ (W : World), Below we.heap.size we W → Calls Tryz.prog 7 #[.agg (vcells Ka ta ma na ba ha bva (.slice kaa kna kca)).toList.toArray, .bool can, .bool false] W (fun e w' => e = .returned (.tuple #[.string SA, .bool true]) ∧ Below W.heap.size W w') := fun W hb => by
    rw [Array.toArray_toList, hSA]
    exact extWrite can Ka ta ma na ba ha bsa (docK x) (fun e he => hft.1 e (List.mem_append_left _ he)) (fun e he => hft.2.1 e (List.mem_append_left _ he)) (fun e he => hft.2.2.1 e (List.mem_append_left _ he)) (by have := hft.2.2.2; omega) W.heap.size _ W (HDD.out.1.kept hb).d.v (Nat.le_refl _) (HT.out.bel (below_tr HBE.out hb) HT.out.big)
  have hw2 : ∀ (W : World), Below we.heap.size we W → Calls Tryz.prog 7 #[.agg (vcells Kb tb mb nb bb hb' bvb (.slice kab knb kcb)).toList.toArray, .bool can, .bool false] W (fun e w' => e = .returned (.tuple #[.string SB, .bool true]) ∧ Below W.heap.size W w') := fun W hb => by
    rw [Array.toArray_toList, hSB]
    exact extWrite can Kb tb mb nb bb hb' bsb (docK y) (fun e he => hft.1 e (List.mem_append_right _ he)) (fun e he => hft.2.1 e (List.mem_append_right _ he)) (fun e he => hft.2.2.1 e (List.mem_append_right _ he)) (by have := hft.2.2.2; omega) W.heap.size _ W (HDD.out.2.kept hb).d.v (Nat.le_refl _) (HT.out.bel (below_tr HBE.out hb) HT.out.big)
  have hw3 : ∀ (W : World), Below we.heap.size we W → Calls Tryz.prog 7 #[.agg (vcells 3 ⟨#[]⟩ ⟨#[]⟩ 0 0 0 (.slice none 0 0) (.slice (some ⟨gk, 0, none⟩) (kna + knb) cap)).toList.toArray, .bool can, .bool false] W (fun e w' => e = .returned (.tuple #[.string SU, .bool true]) ∧ Below W.heap.size W w') := fun W hb => by
    rw [Array.toArray_toList, hSU]
    exact extWrite can 3 ⟨#[]⟩ ⟨#[]⟩ 0 0 0 [] (docK x ++ docK y) hft.1 hft.2.1 hft.2.2.1 (by rw [nodesL_append]; have := hft.2.2.2; omega) W.heap.size _ W (HV9.out.kept hb.size (fun k hk => hb.block k hk)) (Nat.le_refl _) (HT.out.bel (below_tr HBE.out hb) HT.out.big)
  have HW1 := Lib.hid hw1
  have HW2 := Lib.hid hw2
  have HW3 := Lib.hid hw3
  have HS3 := Lib.hid h3
  have HBC := Lib.hid HB5.out.1
  clear hq hft hka0 hkb0 hSA hSB hSU h3 hw1 hw2 hw3
  go_upto_region 7 with fail
  go_upto_region 8 with (first | ((with_reducible refine wpList_at (some 52) ?_); refine wpList_load_mid rfl 26 (.tmp 7) rfl g1 0 rfl (vcells Ka ta ma na ba ha bva (.slice kaa kna kca)).toList _ (HRS.out _ HBC.out).1 Tryz.underlying26 rfl info26l ?_) | (go_at_call 7; refine (HW1.out _ HBC.out).mono ?_; rintro e7 w7 ⟨rfl, hb7⟩; have HBC := Lib.hid (below_tr HBC.out hb7); clear hb7))
  clear HW1
  go_upto_region 9 with (first | ((with_reducible refine wpList_at (some 58) ?_); refine wpList_load_mid rfl 26 (.tmp 8) rfl g2 0 rfl (vcells Kb tb mb nb bb hb' bvb (.slice kab knb kcb)).toList _ (HRS.out _ HBC.out).2.1 Tryz.underlying26 rfl info26l ?_) | (go_at_call 7; refine (HW2.out _ HBC.out).mono ?_; rintro e8 w8 ⟨rfl, hb8⟩; have HBC := Lib.hid (below_tr HBC.out hb8); clear hb8))
  clear HW2
  go_upto_region 10 with (first | ((with_reducible refine wpList_at (some 64) ?_); refine wpList_load_mid rfl 26 (.tmp 9) rfl g9 0 rfl (vcells 3 ⟨#[]⟩ ⟨#[]⟩ 0 0 0 (.slice none 0 0) (.slice (some ⟨gk, 0, none⟩) (kna + knb) cap)).toList _ (HRS.out _ HBC.out).2.2 Tryz.underlying26 rfl info26l ?_) | (go_at_call 7; refine (HW3.out _ HBC.out).mono ?_; rintro e9 w9 ⟨rfl, hb9⟩; have HBC := Lib.hid (below_tr HBC.out hb9); clear hb9))
  clear HW3
  have HBT := Lib.hid (below_tr HBE.out HBC.out)
  obtain ⟨S1, hS1⟩ : ∃ s : ByteArray, s = SA.extract 0 (SA.size - 2) := ⟨_, rfl⟩
  obtain ⟨S2, hS2⟩ : ∃ s : ByteArray, s = SB.extract 1 SB.size := ⟨_, rfl⟩
  obtain ⟨S3, hS3⟩ : ∃ s : ByteArray, s = S1 ++ ⟨#[44]⟩ := ⟨_, rfl⟩
  obtain ⟨S4, hS4⟩ : ∃ s : ByteArray, s = S3 ++ S2 := ⟨_, rfl⟩
  have hz1 : S1.size ≤ 10000000 := by rw [hS1, ByteArray.size_extract]; have := HS3.out.2.2.1; omega
  have hz2 : S2.size ≤ 10000000 := by rw [hS2, ByteArray.size_extract]; have := HS3.out.2.2.2.1; omega
  have hz3 : S3.size ≤ 10000001 := by rw [hS3, ByteArray.size_append]; show S1.size + 1 ≤ _; omega
  have heq : SU = S4 := by rw [HS3.out.2.2.2.2, hS4, hS3, hS1, hS2]
  have HSS := Lib.hid (And.intro hS1 (And.intro hS2 (And.intro hS3 (And.intro hS4 (And.intro hz1 (And.intro hz2 (And.intro hz3 heq)))))))
  clear hS1 hS2 hS3 hS4 hz1 hz2 hz3 heq
  refine wp_region_noPanic ?_
  refine wp_region_held_drew (S := fun W => Below w.heap.size w W) (by kernel_rfl) (below_drew HBT.out) (fun hHeld => ?_)
  refine takeH (i := 0) (some 69) ?vr13 rfl rfl (by kernel_rfl) (by kernel_rfl) (by kernel_rfl) (fun _ _ _ h => h) (by rfl) ?yr14 (by assumption) ?rr15
  case yr14 => intro W hSw; go_simp; all_goals with_reducible rfl
  try simp only [Act.put, List.setIfInBounds_toArray, List.set_cons_zero, List.set_cons_succ]
  refine takeH (i := 1) (some 70) ?vr16 rfl rfl (by kernel_rfl) (by kernel_rfl) (by kernel_rfl) (fun _ _ _ h => h) (by rfl) ?yr17 (by assumption) ?rr18
  case yr17 => intro W hSw; go_simp; all_goals with_reducible rfl
  try simp only [Act.put, List.setIfInBounds_toArray, List.set_cons_zero, List.set_cons_succ]
  refine takeH (i := 2) (some 71) ?vr19 rfl rfl (by kernel_rfl) (by kernel_rfl) (by kernel_rfl) (fun _ _ _ h => h) (by rfl) ?yr20 (by assumption) ?rr21
  case yr20 => intro W hSw; go_simp; all_goals with_reducible rfl
  try simp only [Act.put, List.setIfInBounds_toArray, List.set_cons_zero, List.set_cons_succ]
  refine takeH (i := 3) (some 72) ?vr22 rfl rfl (by kernel_rfl) (by kernel_rfl) (by kernel_rfl) (fun _ _ _ h => h) (by rfl) ?yr23 (by assumption) ?rr24
  case yr23 => intro W hSw; go_simp; all_goals with_reducible rfl
  try simp only [Act.put, List.setIfInBounds_toArray, List.set_cons_zero, List.set_cons_succ]
  refine takeH (i := 4) (some 73) ?vr25 rfl rfl (by kernel_rfl) (by kernel_rfl) (by kernel_rfl) (fun _ _ _ h => h) (by rfl) ?yr26 (by assumption) ?rr27
  case yr26 => intro W hSw; go_simp; all_goals with_reducible rfl
  try simp only [Act.put, List.setIfInBounds_toArray, List.set_cons_zero, List.set_cons_succ]
  refine takeH (i := 5) (some 74) ?vr28 rfl rfl (by kernel_rfl) (by kernel_rfl) (by kernel_rfl) (fun _ _ _ h => h) (by rfl) ?yr29 (by assumption) ?rr30
  case yr29 => intro W hSw; go_simp; all_goals with_reducible rfl
  try simp only [Act.put, List.setIfInBounds_toArray, List.set_cons_zero, List.set_cons_succ]
  refine takeH (i := 6) (some 75) ?vr31 rfl rfl (by kernel_rfl) (by kernel_rfl) (by kernel_rfl) (fun _ _ _ h => h) (by rfl) ?yr32 (by assumption) ?rr33
  case yr32 => intro W hSw; go_simp; all_goals with_reducible rfl
  try simp only [Act.put, List.setIfInBounds_toArray, List.set_cons_zero, List.set_cons_succ]
  refine takeH (i := 7) (some 76) ?vr34 rfl rfl (by kernel_rfl) (by kernel_rfl) (by kernel_rfl) (fun _ _ _ h => h) (by rfl) ?yr35 (by assumption) ?rr36
  case yr35 => intro W hSw; go_simp; all_goals with_reducible rfl
  try simp only [Act.put, List.setIfInBounds_toArray, List.set_cons_zero, List.set_cons_succ]
  refine takeH (i := 8) (some 77) ?vr37 rfl rfl (by kernel_rfl) (by kernel_rfl) (by kernel_rfl) (fun _ _ _ h => h) (by rfl) ?yr38 (by assumption) ?rr39
  case yr38 => intro W hSw; go_simp; all_goals with_reducible rfl
  try simp only [Act.put, List.setIfInBounds_toArray, List.set_cons_zero, List.set_cons_succ]
  refine takeH (i := 9) (some 78) ?vr40 rfl rfl (by kernel_rfl) (by kernel_rfl) (by kernel_rfl) (fun _ _ _ h => h) (by rfl) ?yr41 (by assumption) ?rr42
  case yr41 => intro W hSw; go_simp; all_goals with_reducible rfl
  try simp only [Act.put, List.setIfInBounds_toArray, List.set_cons_zero, List.set_cons_succ]
  refine takeH (i := 10) (some 79) (.bool true) rfl rfl (by kernel_rfl) (by kernel_rfl) (by kernel_rfl) (fun _ _ _ h => h) (by rfl) (fun W hSw => x_gt3 rfl rfl rfl HS3.out.1) (by assumption) ?_
  try simp only [Act.put, List.setIfInBounds_toArray, List.set_cons_zero, List.set_cons_succ]
  refine takeH (i := 11) (some 80) ?vr43 rfl rfl (by kernel_rfl) (by kernel_rfl) (by kernel_rfl) (fun _ _ _ h => h) (by rfl) ?yr44 (by assumption) ?rr45
  case yr44 => intro W hSw; go_simp; all_goals with_reducible rfl
  try simp only [Act.put, List.setIfInBounds_toArray, List.set_cons_zero, List.set_cons_succ]
  refine takeH (i := 12) (some 81) ?vr46 rfl rfl (by kernel_rfl) (by kernel_rfl) (by kernel_rfl) (fun _ _ _ h => h) (by rfl) ?yr47 (by assumption) ?rr48
  case yr47 => intro W hSw; go_simp; all_goals with_reducible rfl
  try simp only [Act.put, List.setIfInBounds_toArray, List.set_cons_zero, List.set_cons_succ]
  refine takeH (i := 13) (some 82) ?vr49 rfl rfl (by kernel_rfl) (by kernel_rfl) (by kernel_rfl) (fun _ _ _ h => h) (by rfl) ?yr50 (by assumption) ?rr51
  case yr50 => intro W hSw; go_simp; all_goals with_reducible rfl
  try simp only [Act.put, List.setIfInBounds_toArray, List.set_cons_zero, List.set_cons_succ]
  refine takeH (i := 14) (some 83) ?vr52 rfl rfl (by kernel_rfl) (by kernel_rfl) (by kernel_rfl) (fun _ _ _ h => h) (by rfl) ?yr53 (by assumption) ?rr54
  case yr53 => intro W hSw; go_simp; all_goals with_reducible rfl
  try simp only [Act.put, List.setIfInBounds_toArray, List.set_cons_zero, List.set_cons_succ]
  refine takeH (i := 15) (some 84) (.bool true) rfl rfl (by kernel_rfl) (by kernel_rfl) (by kernel_rfl) (fun _ _ _ h => h) (by rfl) (fun W hSw => x_gt3 rfl rfl rfl HS3.out.2.1) (by assumption) ?_
  try simp only [Act.put, List.setIfInBounds_toArray, List.set_cons_zero, List.set_cons_succ]
  refine takeH (i := 16) (some 85) ?vr55 rfl rfl (by kernel_rfl) (by kernel_rfl) (by kernel_rfl) (fun _ _ _ h => h) (by rfl) ?yr56 (by assumption) ?rr57
  case yr56 => intro W hSw; go_simp; all_goals with_reducible rfl
  try simp only [Act.put, List.setIfInBounds_toArray, List.set_cons_zero, List.set_cons_succ]
  refine takeH (i := 17) (some 86) ?vr58 rfl rfl (by kernel_rfl) (by kernel_rfl) (by kernel_rfl) (fun _ _ _ h => h) (by rfl) ?yr59 (by assumption) ?rr60
  case yr59 => intro W hSw; go_simp; all_goals with_reducible rfl
  try simp only [Act.put, List.setIfInBounds_toArray, List.set_cons_zero, List.set_cons_succ]
  refine takeH (i := 18) (some 87) ?vr61 rfl rfl (by kernel_rfl) (by kernel_rfl) (by kernel_rfl) (fun _ _ _ h => h) (by rfl) ?yr62 (by assumption) ?rr63
  case yr62 => intro W hSw; go_simp; all_goals with_reducible rfl
  try simp only [Act.put, List.setIfInBounds_toArray, List.set_cons_zero, List.set_cons_succ]
  refine takeH (i := 19) (some 88) ?vr64 rfl rfl (by kernel_rfl) (by kernel_rfl) (by kernel_rfl) (fun _ _ _ h => h) (by rfl) ?yr65 (by assumption) ?rr66
  case yr65 => intro W hSw; go_simp; all_goals with_reducible rfl
  try simp only [Act.put, List.setIfInBounds_toArray, List.set_cons_zero, List.set_cons_succ]
  refine takeH (i := 20) (some 89) ?vr67 rfl rfl (by kernel_rfl) (by kernel_rfl) (by kernel_rfl) (fun _ _ _ h => h) (by rfl) ?yr68 (by assumption) ?rr69
  case yr68 => intro W hSw; go_simp; all_goals with_reducible rfl
  try simp only [Act.put, List.setIfInBounds_toArray, List.set_cons_zero, List.set_cons_succ]
  refine takeH (i := 21) (some 90) ?vr70 rfl rfl (by kernel_rfl) (by kernel_rfl) (by kernel_rfl) (fun _ _ _ h => h) (by rfl) ?yr71 (by assumption) ?rr72
  case yr71 => intro W hSw; go_simp; all_goals with_reducible rfl
  try simp only [Act.put, List.setIfInBounds_toArray, List.set_cons_zero, List.set_cons_succ]
  refine takeH (i := 22) (some 91) (.int .i64 ((SA.size - 2 : Nat) : Int)) rfl rfl (by kernel_rfl) (by kernel_rfl) (by kernel_rfl) (fun _ _ _ h => h) (by rfl) (fun W hSw => x_sub2 rfl rfl rfl HS3.out.1 HS3.out.2.2.1) (by assumption) ?_
  try simp only [Act.put, List.setIfInBounds_toArray, List.set_cons_zero, List.set_cons_succ]
  refine takeH (i := 23) (some 92) (.string S1) rfl rfl (by kernel_rfl) (by kernel_rfl) (by kernel_rfl) (fun _ _ _ h => h) (by rfl) (fun W hSw => by rw [HSS.out.1]; exact x_sliceH rfl rfl rfl (by omega)) (by assumption) ?_
  try simp only [Act.put, List.setIfInBounds_toArray, List.set_cons_zero, List.set_cons_succ]
  refine takeH (i := 24) (some 93) (.string S3) rfl rfl (by kernel_rfl) (by kernel_rfl) (by kernel_rfl) (fun _ _ _ h => h) (by rfl) (fun W hSw => by rw [HSS.out.2.2.1]; exact x_cat rfl rfl rfl (by have := HSS.out.2.2.2.2.1; show S1.size + 1 ≤ _; omega)) (by assumption) ?_
  try simp only [Act.put, List.setIfInBounds_toArray, List.set_cons_zero, List.set_cons_succ]
  refine takeH (i := 25) (some 94) ?vr73 rfl rfl (by kernel_rfl) (by kernel_rfl) (by kernel_rfl) (fun _ _ _ h => h) (by rfl) ?yr74 (by assumption) ?rr75
  case yr74 => intro W hSw; go_simp; all_goals with_reducible rfl
  try simp only [Act.put, List.setIfInBounds_toArray, List.set_cons_zero, List.set_cons_succ]
  refine takeH (i := 26) (some 95) (.string S2) rfl rfl (by kernel_rfl) (by kernel_rfl) (by kernel_rfl) (fun _ _ _ h => h) (by rfl) (fun W hSw => by rw [HSS.out.2.1]; exact x_sliceL rfl rfl rfl HS3.out.2.1) (by assumption) ?_
  try simp only [Act.put, List.setIfInBounds_toArray, List.set_cons_zero, List.set_cons_succ]
  refine takeH (i := 27) (some 96) (.string S4) rfl rfl (by kernel_rfl) (by kernel_rfl) (by kernel_rfl) (fun _ _ _ h => h) (by rfl) (fun W hSw => by rw [HSS.out.2.2.2.1]; exact x_cat rfl rfl rfl (by have := HSS.out.2.2.2.2.2.1; have := HSS.out.2.2.2.2.2.2.1; omega)) (by assumption) ?_
  try simp only [Act.put, List.setIfInBounds_toArray, List.set_cons_zero, List.set_cons_succ]
  refine takeH (i := 28) (some 97) (.bool true) rfl rfl (by kernel_rfl) (by kernel_rfl) (by kernel_rfl) (fun _ _ _ h => h) (by rfl) (fun W hSw => x_eqlS rfl rfl rfl HSS.out.2.2.2.2.2.2.2) (by assumption) ?_
  try simp only [Act.put, List.setIfInBounds_toArray, List.set_cons_zero, List.set_cons_succ]
  refine takeH (i := 29) (some 98) ?vr76 rfl rfl (by kernel_rfl) (by kernel_rfl) (by kernel_rfl) (fun _ _ _ h => h) (by rfl) ?yr77 (by assumption) ?rr78
  case yr77 => intro W hSw; go_simp; all_goals with_reducible rfl
  try simp only [Act.put, List.setIfInBounds_toArray, List.set_cons_zero, List.set_cons_succ]
  refine takeH (i := 30) (some 6) ?vr79 rfl rfl (by kernel_rfl) (by kernel_rfl) (by kernel_rfl) (fun _ _ _ h => h) (by rfl) ?yr80 (by assumption) ?rr81
  case yr80 => intro W hSw; go_simp; all_goals with_reducible rfl
  try simp only [Act.put, List.setIfInBounds_toArray, List.set_cons_zero, List.set_cons_succ]
  refine wpAnyH_done (by kernel_rfl) ?_ _
  refine NoPanic.normal ?_
  go_wp2
  go_ret
  exact ⟨rfl, hHeld⟩

end Go.Proofs.YtpkfdbhpmhahaaaGreatDoor
