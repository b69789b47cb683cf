-- PRINTED BY print.sh 35421559b90ae4d0a3588c463048766b98c2df88dd9212a6774a882060cdf62d: not written by this session
import Derived.Test.YtdabllkphibfmaaGreatDoorPFnExtTokensx0
import Derived.Test.YtdabllkphibfmaaGreatDoorPFnExtTokensx5
namespace Go.Proofs.YtdabllkphibfmaaGreatDoor.PFnExtTokens
open Go.RowKit Go.Proofs.YtdabllkphibfmaaGreatDoorW.PrintWords Go.Proofs.YtdabllkphibfmaaGreatDoorW.PrintLast Go.Proofs.YtdabllkphibfmaaGreatDoorW.PrintMore
attribute [local go_sem] max2_int min2_int max_two min_two max_three min_three max_four min_four   -- for this text's walks alone
set_option linter.unusedVariables false
set_option linter.unusedSimpArgs false

-- NOT PRINTED: function 11 (spec_ExtQuoted)

/-! ### laws_decNumber: function 23 -/
def laws_decNumber.f : Nat → Int → Option (ByteArray)
  | 0, _ => none
  | k + 1, a0 => if a0 < 0 then ((laws_decNumber.f k (wrap64 (-a0))).bind fun t274 => (if 1 + t274.size ≤ 9223372036854775807 then (some ((⟨#[45]⟩ : ByteArray) ++ t274)) else (none))) else (if a0 < 10 then (some (strOfNums (([(wrap64 (48 + a0)) % 256] : List Int)))) else ((laws_decNumber.f k (wrap64 (Int.tdiv a0 10))).bind fun t278 => ((some (([(wrap64 (48 + (Int.tmod a0 10))) % 256] : List Int) : List Int)).bind fun y279 => (if t278.size + (strOfNums y279).size ≤ 9223372036854775807 then (some (t278 ++ (strOfNums y279))) else (none)))))
theorem laws_decNumber.mono_l : ∀ k, (∀ y0, LeO (laws_decNumber.f k y0) (laws_decNumber.f (k + 1) y0))
  | 0 => fun _ r h => by simp [laws_decNumber.f] at h
  | k + 1 => by
    have ih0 := laws_decNumber.mono_l k
    · intro y0
      unfold laws_decNumber.f
      repeat' first
      | (with_reducible exact ih0 _)
      | (with_reducible exact LeO.refl _)
      | (with_reducible exact LeO.none _)
      | (with_reducible refine LeO.ite ?_ ?_)
      | (with_reducible refine LeO.bind ?_ (fun _ => ?_))
      | exact ih0 _
      | exact LeO.none _
      | refine LeO.ite ?_ ?_
      | refine LeO.bind ?_ (fun _ => ?_)
theorem laws_decNumber.mono : ∀ a0 k, LeO (laws_decNumber.f k a0) (laws_decNumber.f (k + 1) a0) := by
  intro a0 k
  have ih0 := laws_decNumber.mono_l k
  exact ih0 a0
def laws_decNumber.T5 : Bool × List (List Nat × List Nat) := (true, [([], []), ([0], [0]), ([1], [1]), ([], []), ([3], [3]), ([4], [4]), ([5], [5]), ([6], [6]), ([7], [7]), ([2, 8], [2, 8]), ([9, 2, 0, 1, 2, 3, 4, 5, 6, 7, 8, 9], [9])])
def laws_decNumber.B5 : List Nat := [0, 1, 3, 0, 8, 24, 56, 120, 248, 511, 1023]
theorem laws_decNumber.tab5 : rtab .any (opsOf Tryz.f23 5) = laws_decNumber.T5 := by kernel_rfl
theorem laws_decNumber.bits5 : waitsOk laws_decNumber.T5.2 laws_decNumber.B5 = true := by kernel_rfl
set_option maxHeartbeats 8000000 in
set_option maxRecDepth 100000 in
theorem laws_decNumber.calls (k : Nat) : ∀ (a0 : Int) (r : ByteArray) (w : World) (h : laws_decNumber.f k a0 = some r),
    Calls Tryz.prog 23 #[.int .i64 a0] w fun e w' => e = .returned (.string r) ∧ Below w.heap.size w w' := by
  induction k using Nat.strongRecOn with
  | _ k ih =>
  intro a0 r w h
  cases k with
  | zero => exact absurd h (by simp [laws_decNumber.f])
  | succ k =>
  simp only [laws_decNumber.f] at h
  have HB := Aside0.mk (Below.refl w.heap.size w)
  have H : (if a0 < 0 then ((laws_decNumber.f k (wrap64 (-a0))).bind fun t274 => (if 1 + t274.size ≤ 9223372036854775807 then (some ((⟨#[45]⟩ : ByteArray) ++ t274)) else (none))) else (if a0 < 10 then (some (strOfNums (([(wrap64 (48 + a0)) % 256] : List Int)))) else ((laws_decNumber.f k (wrap64 (Int.tdiv a0 10))).bind fun t278 => ((some (([(wrap64 (48 + (Int.tmod a0 10))) % 256] : List Int) : List Int)).bind fun y279 => (if t278.size + (strOfNums y279).size ≤ 9223372036854775807 then (some (t278 ++ (strOfNums y279))) else (none)))))) = some r := h
  clear h
  by_cases c2 : a0 < 0
  · rw [if_pos c2] at H
    have c2b0 : decide (a0 < 0) = true := decide_eq_true c2
    clear c2
    replace H := Option.bind_eq_some_iff.mp H
    obtain ⟨t274, A30, H⟩ := H
    replace H : (if 1 + t274.size ≤ 9223372036854775807 then (some ((⟨#[45]⟩ : ByteArray) ++ t274)) else (none)) = some r := H
    have A3 := Aside0.mk A30
    clear A30
    by_cases c4 : 1 + t274.size ≤ 9223372036854775807
    · rw [if_pos c4] at H
      have c4b0 := eq_true c4
      have c4b1 : decide (1 + t274.size ≤ 9223372036854775807) = true := decide_eq_true c4
      try have c4b2 : (9223372036854775807 < 1 + t274.size) = False := eq_false (Nat.not_lt.2 c4)
      obtain rfl := Option.some.inj H
      go_enter Tryz.func23, Tryz.ntmps23
      go_wp2_with (first | ((with_reducible refine gate_callee (f := 23) rfl ?_); refine goesL_ (some 7) rfl rfl Tryz.func23 (by kernel_rfl) rfl #[.int .i64 (wrap64 (-a0))] rfl (by (try simp only [List.map_toArray, List.map_cons, List.map_nil]); first | done | rfl | (simp only [List.length_drop, List.length_take]; rfl)) ?_; (with_reducible refine (ih k (by omega) (wrap64 (-a0)) t274 _ A3.out).mono ?_); rintro e w5 ⟨rfl, hb⟩; refine ⟨_, rfl, ?_⟩; have n0_ := Aside0.mk (below_step (by repeat (first | (with_reducible first | exact HB.out | apply below_alloc | apply pw_below_drewN | apply below_drew1) | exact HB.out)) hb); clear HB; have HB := n0_; clear n0_; (try clear hb); (try clear hb2); (try clear hk); (try clear hi)))
      go_ret
      exact ⟨by first | rfl | (simp [errW_none, errW_some] <;> rfl) | (simp [*, errW_none, errW_some] <;> rfl), by repeat (first | (with_reducible first | exact HB.out | apply below_alloc | apply pw_below_drewN | apply below_drew1) | exact HB.out)⟩
    · rw [if_neg c4] at H
      exact absurd H (by simp)
  · rw [if_neg c2] at H
    have c2b0 : decide (a0 < 0) = false := decide_eq_false c2
    clear c2
    by_cases c6 : a0 < 10
    · rw [if_pos c6] at H
      have c6b0 : decide (a0 < 10) = true := decide_eq_true c6
      clear c6
      obtain ⟨y275, hy275⟩ : ∃ y_ : List Int, y_ = (([(wrap64 (48 + a0)) % 256] : List Int)) := ⟨_, rfl⟩
      replace H : (some (strOfNums y275)) = some r := by first | (rw [hy275]; with_reducible exact H) | (have H2_ := (Option.bind_some _ _).symm.trans H; rw [hy275]; with_reducible exact H2_) | (have H2_ := (Option.bind_some _ _).symm.trans H; with_reducible exact H2_) | with_reducible exact H | (rw [hy275]; exact H) | exact H
      have Ny275 := Aside0.mk hy275
      clear hy275
      obtain rfl := Option.some.inj H
      go_enter Tryz.func23, Tryz.ntmps23
      go_wp2_with (first | ((with_reducible refine gate_dst (N := 14) rfl ?_); refine Kd.R_lit (Kd.int .u8) _ 5 ?hg (N := 14) ?hd (xs := ([(wrap64 (48 + a0)) % 256] : List Int)) (inner := [.int .u8 ((wrap64 (48 + a0)) % 256)]) (ok := fun _ => True) (okp := fun _ => True) ?hr ?hp (fun _ hk => hk) trivial (Below.refl _ _) (Nat.le_refl _) (by simp) ?_; (case hd => rfl); (case hg => rfl); (case hr => first | (go_simp; done) | (go_simp; rfl)); (case hp => exact (Reps.one (show Kd.M (Kd.int .u8) _ _ _ ((wrap64 (48 + a0)) % 256) [.int .u8 ((wrap64 (48 + a0)) % 256)] from rfl) (Reps.none _ _))); intro v276 w7 ho8 hb hg_ hnew_; clear hg_ hnew_; (first | rw [← Ny275.out] at ho8 | (simp only [Int.reduceToNat] at ho8; rw [← Ny275.out] at ho8)); have n0_ := Aside0.mk (Kd.R_lower ho8 (below_size (by repeat (first | (with_reducible first | exact HB.out | apply below_alloc | apply pw_below_drewN | apply below_drew1) | exact HB.out)))); have n1_ := Aside0.mk (below_step (by repeat (first | (with_reducible first | exact HB.out | apply below_alloc | apply pw_below_drewN | apply below_drew1) | exact HB.out)) hb); clear HB; have HO277 := n0_; have HB := n1_; clear n0_ n1_; clear hb ho8; have hcv9 := own_string (P := Tryz.prog) Tryz.underlying31 Tryz.underlying5 Tryz.underlying9 (Kd.own_of_R HO277.out)))
      go_ret
      exact ⟨by first | rfl | (simp [errW_none, errW_some] <;> rfl) | (simp [*, errW_none, errW_some] <;> rfl), by repeat (first | (with_reducible first | exact HB.out | apply below_alloc | apply pw_below_drewN | apply below_drew1) | exact HB.out)⟩
    · rw [if_neg c6] at H
      have c6b0 : decide (a0 < 10) = false := decide_eq_false c6
      clear c6
      replace H := Option.bind_eq_some_iff.mp H
      obtain ⟨t278, A100, H⟩ := H
      replace H : ((some (([(wrap64 (48 + (Int.tmod a0 10))) % 256] : List Int) : List Int)).bind fun y279 => (if t278.size + (strOfNums y279).size ≤ 9223372036854775807 then (some (t278 ++ (strOfNums y279))) else (none))) = some r := H
      have A10 := Aside0.mk A100
      clear A100
      obtain ⟨y279, hy279⟩ : ∃ y_ : List Int, y_ = (([(wrap64 (48 + (Int.tmod a0 10))) % 256] : List Int)) := ⟨_, rfl⟩
      replace H : (if t278.size + (strOfNums y279).size ≤ 9223372036854775807 then (some (t278 ++ (strOfNums y279))) else (none)) = some r := by first | (rw [hy279]; with_reducible exact H) | (have H2_ := (Option.bind_some _ _).symm.trans H; rw [hy279]; with_reducible exact H2_) | (have H2_ := (Option.bind_some _ _).symm.trans H; with_reducible exact H2_) | with_reducible exact H | (rw [hy279]; exact H) | exact H
      have Ny279 := Aside0.mk hy279
      clear hy279
      by_cases c11 : t278.size + (strOfNums y279).size ≤ 9223372036854775807
      · rw [if_pos c11] at H
        have c11b0 := eq_true c11
        have c11b1 : decide (t278.size + (strOfNums y279).size ≤ 9223372036854775807) = true := decide_eq_true c11
        try have c11b2 : (9223372036854775807 < t278.size + (strOfNums y279).size) = False := eq_false (Nat.not_lt.2 c11)
        obtain rfl := Option.some.inj H
        go_enter Tryz.func23, Tryz.ntmps23
        try go_wp2
        have n0_ := Aside0.mk (below_drew1 HB.out)
        clear HB
        have HB := n0_
        clear n0_
        refine start_ (n := 11) (S := fun w' => True) (ds := []) #[false, false, false, false, false, false, false, false, false, false, false] (by kernel_rfl) rfl rfl trivial (fun hHeld => ?_); refine with_tabW laws_decNumber.tab5 laws_decNumber.bits5 (fun HT_ HW_ => ?_)
        generalize w.drew = w12 at HB hHeld ⊢
        refine pure_ (i := 0) (N := some 16) (v := ?_) (a' := ?_) #[true, false, false, false, false, false, false, false, false, false, false] rfl rfl (any_of HT_.out (by kernel_rfl)) (fun _ _ _ h => h) (Or.inl ⟨by rfl, ?_⟩) ?_ ?_
        rotate_left
        · intro w'
          go_simp
          with_reducible rfl
        rotate_left
        · simp only [Act.put, List.setIfInBounds_toArray, List.set_cons_zero, List.set_cons_succ, i64_w, i32_w]
          rfl
        refine pure_ (i := 1) (N := some 17) (v := ?_) (a' := ?_) #[true, true, false, false, false, false, false, false, false, false, false] rfl rfl (any_of HT_.out (by kernel_rfl)) (fun _ _ _ h => h) (Or.inl ⟨by rfl, ?_⟩) ?_ ?_
        rotate_left
        · intro w'
          go_simp
          with_reducible rfl
        rotate_left
        · simp only [Act.put, List.setIfInBounds_toArray, List.set_cons_zero, List.set_cons_succ, i64_w, i32_w]
          rfl
        refine pure_ (i := 3) (N := some 19) (v := ?_) (a' := ?_) #[true, true, false, true, false, false, false, false, false, false, false] rfl rfl (any_of HT_.out (by kernel_rfl)) (fun _ _ _ h => h) (Or.inl ⟨by rfl, ?_⟩) ?_ ?_
        rotate_left
        · intro w'
          go_simp
          with_reducible rfl
        rotate_left
        · simp only [Act.put, List.setIfInBounds_toArray, List.set_cons_zero, List.set_cons_succ, i64_w, i32_w]
          rfl
        refine pure_ (i := 4) (N := some 20) (v := ?_) (a' := ?_) #[true, true, false, true, true, false, false, false, false, false, false] rfl rfl (any_of HT_.out (by kernel_rfl)) (fun _ _ _ h => h) (Or.inl ⟨by rfl, ?_⟩) ?_ ?_
        rotate_left
        · intro w'
          go_simp
          with_reducible rfl
        rotate_left
        · simp only [Act.put, List.setIfInBounds_toArray, List.set_cons_zero, List.set_cons_succ, i64_w, i32_w]
          rfl
        refine pure_ (i := 5) (N := some 21) (v := ?_) (a' := ?_) #[true, true, false, true, true, true, false, false, false, false, false] rfl rfl (any_of HT_.out (by kernel_rfl)) (fun _ _ _ h => h) (Or.inl ⟨by rfl, ?_⟩) ?_ ?_
        rotate_left
        · intro w'
          go_simp
          with_reducible rfl
        rotate_left
        · simp only [Act.put, List.setIfInBounds_toArray, List.set_cons_zero, List.set_cons_succ, i64_w, i32_w]
          rfl
        refine pure_ (i := 6) (N := some 22) (v := ?_) (a' := ?_) #[true, true, false, true, true, true, true, false, false, false, false] rfl rfl (any_of HT_.out (by kernel_rfl)) (fun _ _ _ h => h) (Or.inl ⟨by rfl, ?_⟩) ?_ ?_
        rotate_left
        · intro w'
          go_simp
          with_reducible rfl
        rotate_left
        · simp only [Act.put, List.setIfInBounds_toArray, List.set_cons_zero, List.set_cons_succ, i64_w, i32_w]
          rfl
        refine join_ (σ := Value) 2 #[true, true, true, true, true, true, true, true, true, false, false] (fun s_ => [(18, .string t278), (23, s_), (24, .string (strOfNums y279))]) (fun s_ w' => (Kd.R (Kd.int .u8) 5 w' w.heap.size (fun _ => True) s_ y279) ∧ (Below w.heap.size w w')) ?_ ?_
        rotate_left
        · intro hCont
          refine two_ (i := 2) (j := 7) (Ni := some 18) (Nj := some 23) #[true, true, true, true, true, true, true, false, false, false, false] #[true, true, false, true, true, true, true, true, false, false, false] rfl rfl rfl rfl (two_of HT_.out (by kernel_rfl)) (by decide) (by decide) (fun K hK => ?_) (fun K hK => ?_)
          · skip
            refine goes_ Tryz.func23 (by kernel_rfl) rfl #[.int .i64 (wrap64 (Int.tdiv a0 10))] (by rfl) rfl rfl (by (try simp only [List.map_toArray, List.map_cons, List.map_nil]); first | done | rfl | (simp only [List.length_drop, List.length_take]; rfl)) ?_
            with_reducible refine (ih k (by omega) (wrap64 (Int.tdiv a0 10)) t278 _ A10.out).mono ?_
            rintro e w13 ⟨rfl, hb⟩
            refine ⟨_, rfl, ?_⟩
            have n0_ := Aside0.mk (below_step (by repeat (first | (with_reducible first | exact HB.out | apply below_alloc | apply pw_below_drewN | apply below_drew1) | exact HB.out)) hb)
            clear HB
            have HB := n0_
            clear n0_
            (try clear hb)
            (try clear hb2)
            (try clear hk)
            (try clear hi)
            refine hK.out _ _ trivial (fun hHeld => ?_)
            clear hK K
            refine norm_ (a' := ?_) ?_ ?_
            rotate_left
            · show Act.put _ (some 18) _ = _
              simp only [Act.put, List.setIfInBounds_toArray, List.set_cons_zero, List.set_cons_succ, i64_w, i32_w]
              rfl
            refine one_ (i := 7) (N := some 23) #[true, true, true, true, true, true, true, true, false, false, false] rfl rfl (one_of HT_.out (by kernel_rfl)) (by decide) (fun K hK => ?_)
            refine Kd.R_lit_step (Kd.int .u8) _ 5 ?hg (N := 23) ?hd (xs := ([(wrap64 (48 + (Int.tmod a0 10))) % 256] : List Int)) (inner := [.int .u8 ((wrap64 (48 + (Int.tmod a0 10))) % 256)]) (ok := fun _ => True) (okp := fun _ => True) ?hr ?hp (fun _ hk => hk) trivial (Below.refl _ _) (Nat.le_refl _) (by simp) ?_; (case hd => rfl); (case hg => rfl); (case hr => first | (go_simp; done) | (go_simp; rfl)); (case hp => exact (Reps.one (show Kd.M (Kd.int .u8) _ _ _ ((wrap64 (48 + (Int.tmod a0 10))) % 256) [.int .u8 ((wrap64 (48 + (Int.tmod a0 10))) % 256)] from rfl) (Reps.none _ _)))
            intro v280 w14 ho15 hb hg_ hnew_
            clear hg_ hnew_
            (first | rw [← Ny279.out] at ho15 | (simp only [Int.reduceToNat] at ho15; rw [← Ny279.out] at ho15))
            have n0_ := Aside0.mk (Kd.R_lower ho15 (below_size (by repeat (first | (with_reducible first | exact HB.out | apply below_alloc | apply pw_below_drewN | apply below_drew1) | exact HB.out))))
            have n1_ := Aside0.mk (below_step (by repeat (first | (with_reducible first | exact HB.out | apply below_alloc | apply pw_below_drewN | apply below_drew1) | exact HB.out)) hb)
            clear HB
            have HO281 := n0_
            have HB := n1_
            clear n0_ n1_
            clear hb ho15
            refine hK.out _ _ trivial (fun hHeld => ?_)
            clear hK K
            refine norm_ (a' := ?_) ?_ ?_
            rotate_left
            · show Act.put _ (some 23) _ = _
              simp only [Act.put, List.setIfInBounds_toArray, List.set_cons_zero, List.set_cons_succ, i64_w, i32_w]
              rfl
            refine one_ (i := 8) (N := some 24) #[true, true, true, true, true, true, true, true, true, false, false] rfl rfl (one_of HT_.out (by kernel_rfl)) (by decide) (fun K hK => ?_)
            have hcv16 := own_string (P := Tryz.prog) Tryz.underlying31 Tryz.underlying5 Tryz.underlying9 (Kd.own_of_R HO281.out)
            refine value_ (w1 := ?_) (v := ?_) (by rfl) rfl ?_ ?_
            rotate_left 2
            · go_simp
              constructor
              · rfl
              · rfl
            clear hcv16
            refine hK.out _ _ trivial (fun hHeld => ?_)
            clear hK K
            refine norm_ (a' := ?_) ?_ ?_
            rotate_left
            · show Act.put _ (some 24) _ = _
              simp only [Act.put, List.setIfInBounds_toArray, List.set_cons_zero, List.set_cons_succ, i64_w, i32_w]
              rfl
            exact norm_ (by simp only [putAll, Act.put, List.setIfInBounds_toArray, List.set_cons_zero, List.set_cons_succ]) (hCont (v280) _ ⟨(by (with_reducible repeat (first | apply Kd.R_alloc | apply Kd.R_drewN | apply Kd.R_drew)); exact HO281.out), (by repeat (first | (with_reducible first | exact HB.out | apply below_alloc | apply pw_below_drewN | apply below_drew1) | exact HB.out))⟩)
          · skip
            refine Kd.R_lit_step (Kd.int .u8) _ 5 ?hg (N := 23) ?hd (xs := ([(wrap64 (48 + (Int.tmod a0 10))) % 256] : List Int)) (inner := [.int .u8 ((wrap64 (48 + (Int.tmod a0 10))) % 256)]) (ok := fun _ => True) (okp := fun _ => True) ?hr ?hp (fun _ hk => hk) trivial (Below.refl _ _) (Nat.le_refl _) (by simp) ?_; (case hd => rfl); (case hg => rfl); (case hr => first | (go_simp; done) | (go_simp; rfl)); (case hp => exact (Reps.one (show Kd.M (Kd.int .u8) _ _ _ ((wrap64 (48 + (Int.tmod a0 10))) % 256) [.int .u8 ((wrap64 (48 + (Int.tmod a0 10))) % 256)] from rfl) (Reps.none _ _)))
            intro v280 w13 ho14 hb hg_ hnew_
            clear hg_ hnew_
            (first | rw [← Ny279.out] at ho14 | (simp only [Int.reduceToNat] at ho14; rw [← Ny279.out] at ho14))
            have n0_ := Aside0.mk (Kd.R_lower ho14 (below_size (by repeat (first | (with_reducible first | exact HB.out | apply below_alloc | apply pw_below_drewN | apply below_drew1) | exact HB.out))))
            have n1_ := Aside0.mk (below_step (by repeat (first | (with_reducible first | exact HB.out | apply below_alloc | apply pw_below_drewN | apply below_drew1) | exact HB.out)) hb)
            clear HB
            have HO281 := n0_
            have HB := n1_
            clear n0_ n1_
            clear hb ho14
            refine hK.out _ _ trivial (fun hHeld => ?_)
            clear hK K
            refine norm_ (a' := ?_) ?_ ?_
            rotate_left
            · show Act.put _ (some 23) _ = _
              simp only [Act.put, List.setIfInBounds_toArray, List.set_cons_zero, List.set_cons_succ, i64_w, i32_w]
              rfl
            refine two_ (i := 2) (j := 8) (Ni := some 18) (Nj := some 24) #[true, true, true, true, true, true, true, true, false, false, false] #[true, true, false, true, true, true, true, true, true, false, false] rfl rfl rfl rfl (two_of HT_.out (by kernel_rfl)) (by decide) (by decide) (fun K hK => ?_) (fun K hK => ?_)
            · skip
              refine goes_ Tryz.func23 (by kernel_rfl) rfl #[.int .i64 (wrap64 (Int.tdiv a0 10))] (by rfl) rfl rfl (by (try simp only [List.map_toArray, List.map_cons, List.map_nil]); first | done | rfl | (simp only [List.length_drop, List.length_take]; rfl)) ?_
              with_reducible refine (ih k (by omega) (wrap64 (Int.tdiv a0 10)) t278 _ A10.out).mono ?_
              rintro e w15 ⟨rfl, hb⟩
              refine ⟨_, rfl, ?_⟩
              have n0_ := Aside0.mk (Kd.R_below (by (with_reducible repeat (first | apply Kd.R_alloc | apply Kd.R_drewN | apply Kd.R_drew)); exact HO281.out) hb)
              have n1_ := Aside0.mk (below_step (by repeat (first | (with_reducible first | exact HB.out | apply below_alloc | apply pw_below_drewN | apply below_drew1) | exact HB.out)) hb)
              clear HO281
              clear HB
              have HO281 := n0_
              have HB := n1_
              clear n0_ n1_
              (try clear hb)
              (try clear hb2)
              (try clear hk)
              (try clear hi)
              refine hK.out _ _ trivial (fun hHeld => ?_)
              clear hK K
              refine norm_ (a' := ?_) ?_ ?_
              rotate_left
              · show Act.put _ (some 18) _ = _
                simp only [Act.put, List.setIfInBounds_toArray, List.set_cons_zero, List.set_cons_succ, i64_w, i32_w]
                rfl
              refine one_ (i := 8) (N := some 24) #[true, true, true, true, true, true, true, true, true, false, false] rfl rfl (one_of HT_.out (by kernel_rfl)) (by decide) (fun K hK => ?_)
              have hcv16 := own_string (P := Tryz.prog) Tryz.underlying31 Tryz.underlying5 Tryz.underlying9 (Kd.own_of_R HO281.out)
              refine value_ (w1 := ?_) (v := ?_) (by rfl) rfl ?_ ?_
              rotate_left 2
              · go_simp
                constructor
                · rfl
                · rfl
              clear hcv16
              refine hK.out _ _ trivial (fun hHeld => ?_)
              clear hK K
              refine norm_ (a' := ?_) ?_ ?_
              rotate_left
              · show Act.put _ (some 24) _ = _
                simp only [Act.put, List.setIfInBounds_toArray, List.set_cons_zero, List.set_cons_succ, i64_w, i32_w]
                rfl
              exact norm_ (by simp only [putAll, Act.put, List.setIfInBounds_toArray, List.set_cons_zero, List.set_cons_succ]) (hCont (v280) _ ⟨(by (with_reducible repeat (first | apply Kd.R_alloc | apply Kd.R_drewN | apply Kd.R_drew)); exact HO281.out), (by repeat (first | (with_reducible first | exact HB.out | apply below_alloc | apply pw_below_drewN | apply below_drew1) | exact HB.out))⟩)
            · skip
              have hcv15 := own_string (P := Tryz.prog) Tryz.underlying31 Tryz.underlying5 Tryz.underlying9 (Kd.own_of_R HO281.out)
              refine value_ (w1 := ?_) (v := ?_) (by rfl) rfl ?_ ?_
              rotate_left 2
              · go_simp
                constructor
                · rfl
                · rfl
              clear hcv15
              refine hK.out _ _ trivial (fun hHeld => ?_)
              clear hK K
              refine norm_ (a' := ?_) ?_ ?_
              rotate_left
              · show Act.put _ (some 24) _ = _
                simp only [Act.put, List.setIfInBounds_toArray, List.set_cons_zero, List.set_cons_succ, i64_w, i32_w]
                rfl
              refine one_ (i := 2) (N := some 18) #[true, true, true, true, true, true, true, true, true, false, false] rfl rfl (one_of HT_.out (by kernel_rfl)) (by decide) (fun K hK => ?_)
              refine goes_ Tryz.func23 (by kernel_rfl) rfl #[.int .i64 (wrap64 (Int.tdiv a0 10))] (by rfl) rfl rfl (by (try simp only [List.map_toArray, List.map_cons, List.map_nil]); first | done | rfl | (simp only [List.length_drop, List.length_take]; rfl)) ?_
              with_reducible refine (ih k (by omega) (wrap64 (Int.tdiv a0 10)) t278 _ A10.out).mono ?_
              rintro e w16 ⟨rfl, hb⟩
              refine ⟨_, rfl, ?_⟩
              have n0_ := Aside0.mk (Kd.R_below (by (with_reducible repeat (first | apply Kd.R_alloc | apply Kd.R_drewN | apply Kd.R_drew)); exact HO281.out) hb)
              have n1_ := Aside0.mk (below_step (by repeat (first | (with_reducible first | exact HB.out | apply below_alloc | apply pw_below_drewN | apply below_drew1) | exact HB.out)) hb)
              clear HO281
              clear HB
              have HO281 := n0_
              have HB := n1_
              clear n0_ n1_
              (try clear hb)
              (try clear hb2)
              (try clear hk)
              (try clear hi)
              refine hK.out _ _ trivial (fun hHeld => ?_)
              clear hK K
              refine norm_ (a' := ?_) ?_ ?_
              rotate_left
              · show Act.put _ (some 18) _ = _
                simp only [Act.put, List.setIfInBounds_toArray, List.set_cons_zero, List.set_cons_succ, i64_w, i32_w]
                rfl
              exact norm_ (by simp only [putAll, Act.put, List.setIfInBounds_toArray, List.set_cons_zero, List.set_cons_succ]) (hCont (v280) _ ⟨(by (with_reducible repeat (first | apply Kd.R_alloc | apply Kd.R_drewN | apply Kd.R_drew)); exact HO281.out), (by repeat (first | (with_reducible first | exact HB.out | apply below_alloc | apply pw_below_drewN | apply below_drew1) | exact HB.out))⟩)
        rintro v280 w17 ⟨h0_, h1_⟩
        have n0_ : Aside0 (Kd.R (Kd.int .u8) 5 w17 w.heap.size (fun _ => True) v280 y279) := ⟨h0_⟩
        have n1_ : Aside0 (Below w.heap.size w w17) := ⟨h1_⟩
        clear HB
        clear h0_ h1_
        have HO281 := n0_
        have HB := n1_
        clear n0_ n1_
        have hHeld := trivial
        refine norm_ (a' := ?_) ?_ ?_
        rotate_left
        · simp only [putAll, Act.put, List.setIfInBounds_toArray, List.set_cons_zero, List.set_cons_succ]
          rfl
        refine pure_ (i := 9) (N := some 25) (v := ?_) (a' := ?_) #[true, true, true, true, true, true, true, true, true, true, false] rfl rfl (any_of HT_.out (by kernel_rfl)) (fun _ _ _ h => h) (Or.inl ⟨by rfl, ?_⟩) ?_ ?_
        rotate_left
        · intro w'
          go_simp
          with_reducible rfl
        rotate_left
        · simp only [Act.put, List.setIfInBounds_toArray, List.set_cons_zero, List.set_cons_succ, i64_w, i32_w]
          rfl
        refine pure_ (i := 10) (N := some 2) (v := ?_) (a' := ?_) #[true, true, true, true, true, true, true, true, true, true, true] rfl rfl (any_of HT_.out (by kernel_rfl)) (fun _ _ _ h => h) (Or.inl ⟨by rfl, ?_⟩) ?_ ?_
        rotate_left
        · intro w'
          go_simp
          with_reducible rfl
        rotate_left
        · simp only [Act.put, List.setIfInBounds_toArray, List.set_cons_zero, List.set_cons_succ, i64_w, i32_w]
          rfl
        refine done_ (done_of HT_.out (by kernel_rfl)) ?_
        try go_wp2
        go_ret
        exact ⟨by first | rfl | (simp [errW_none, errW_some] <;> rfl) | (simp [*, errW_none, errW_some] <;> rfl), by repeat (first | (with_reducible first | exact HB.out | apply below_alloc | apply pw_below_drewN | apply below_drew1) | exact HB.out)⟩
      · rw [if_neg c11] at H
        exact absurd H (by simp)

-- NOT PRINTED: function 12 (laws_extMarks)

/-! ### spec_extStyle_gap: function 24 -/
def spec_extStyle_gap.f (s0_0 : List Int) (s0_1 : Int) (s0_2 : Bool) (s0_3 : Bool) : Option (ByteArray × Int × Bool × Bool) := if s0_2 = true then (some ((⟨#[]⟩ : ByteArray), s0_1, s0_2, s0_3)) else ((some (([(⟨#[]⟩ : ByteArray), (⟨#[]⟩ : ByteArray), (⟨#[]⟩ : ByteArray), (⟨#[32]⟩ : ByteArray), (⟨#[10]⟩ : ByteArray), (⟨#[9]⟩ : ByteArray), (⟨#[13, 10]⟩ : ByteArray), (⟨#[32, 32]⟩ : ByteArray)] : List ByteArray) : List ByteArray)).bind fun y311 => ((spec_extStyle_next.f s0_0 s0_1 s0_2 s0_3 8).bind fun bt314 => (if 0 ≤ bt314.1 then (if bt314.1 < (y311.length : Int) then (some (rdOf ByteArray.empty y311 bt314.1, bt314.2.1, bt314.2.2.1, bt314.2.2.2)) else (none)) else (none))))
set_option maxHeartbeats 8000000 in
set_option maxRecDepth 100000 in
theorem spec_extStyle_gap.calls (g : Nat) (s0_0 : List Int) (s0_1 : Int) (s0_2 : Bool) (s0_3 : Bool) (r1 : ByteArray) (r2 : Int) (r3 : Bool) (r4 : Bool) (w0 w : World) (hI : IsS67 w0 w g s0_0 s0_1 s0_2 s0_3) (hB : Below w0.heap.size w0 w) (h : spec_extStyle_gap.f s0_0 s0_1 s0_2 s0_3 = some (r1, r2, r3, r4)) :
    Calls Tryz.prog 24 #[.pointer (some ⟨g, 0, none⟩)] w fun e w' => e = .returned (.string r1) ∧ IsS67 w0 w' g s0_0 r2 r3 r4 ∧ Below w0.heap.size w0 w' ∧ KeepBut w w' g none := by
  have HI0 := Aside0.mk hI
  have HK := Aside0.mk (KeepBut.refl w g none)
  have HL := Aside0.mk hB.size
  clear hI
  have HW0 := Aside0.mk hB.size
  have HB := Aside0.mk hB
  clear hB
  have H : (if s0_2 = true then (some ((⟨#[]⟩ : ByteArray), s0_1, s0_2, s0_3)) else ((some (([(⟨#[]⟩ : ByteArray), (⟨#[]⟩ : ByteArray), (⟨#[]⟩ : ByteArray), (⟨#[32]⟩ : ByteArray), (⟨#[10]⟩ : ByteArray), (⟨#[9]⟩ : ByteArray), (⟨#[13, 10]⟩ : ByteArray), (⟨#[32, 32]⟩ : ByteArray)] : List ByteArray) : List ByteArray)).bind fun y311 => ((spec_extStyle_next.f s0_0 s0_1 s0_2 s0_3 8).bind fun bt314 => (if 0 ≤ bt314.1 then (if bt314.1 < (y311.length : Int) then (some (rdOf ByteArray.empty y311 bt314.1, bt314.2.1, bt314.2.2.1, bt314.2.2.2)) else (none)) else (none))))) = some (r1, r2, r3, r4) := h
  clear h
  by_cases c2 : s0_2 = true
  · subst c2
    have H1 : (some ((⟨#[]⟩ : ByteArray), s0_1, true, s0_3)) = some (r1, r2, r3, r4) := by rw [if_pos rfl] at H; exact H
    clear H
    have H := H1
    clear H1
    simp only [Option.some.injEq, Prod.mk.injEq] at H
    obtain ⟨rfl, rfl, rfl, rfl⟩ := H
    obtain ⟨ASz3_0, cSz3_0, HGz3, hgz3, HSz3_0⟩ := HI0.out
    have hcz3_0 := cellS67_0 HGz3
    have hcz3_1 := cellS67_1 HGz3
    have hcz3_2 := cellS67_2 HGz3
    have hcz3_3 := cellS67_3 HGz3
    have hfz3_1 := blk_frozen HGz3 1
    have hfz3_2 := blk_frozen HGz3 2
    have hfz3_3 := blk_frozen HGz3 3
    clear HGz3 hgz3
    go_enter Tryz.func24, Tryz.ntmps24
    go_wp2
    go_ret
    exact ⟨by first | rfl | (simp [errW_none, errW_some] <;> rfl) | (simp [*, errW_none, errW_some] <;> rfl), by repeat (first | (with_reducible first | exact HI0.out | apply IsS67.alloc | apply IsS67.drewN | apply IsS67.drew | apply IsS67.set_1 | apply IsS67.set_2 | apply IsS67.set_3) | exact HI0.out), by repeat (first | (with_reducible first | exact HB.out | apply below_alloc | apply pw_below_drewN | apply below_drew1 | refine below_set ?_ (IsS67.ge HI0.out)) | exact HB.out), by repeat (first | (with_reducible first | exact HK.out | apply KeepBut.set_ | apply keep_drewN | apply keep_drew | apply keep_alloc) | exact HK.out)⟩
  · replace c2 := Bool.eq_false_iff.mpr c2
    subst c2
    have H1 : ((some (([(⟨#[]⟩ : ByteArray), (⟨#[]⟩ : ByteArray), (⟨#[]⟩ : ByteArray), (⟨#[32]⟩ : ByteArray), (⟨#[10]⟩ : ByteArray), (⟨#[9]⟩ : ByteArray), (⟨#[13, 10]⟩ : ByteArray), (⟨#[32, 32]⟩ : ByteArray)] : List ByteArray) : List ByteArray)).bind fun y311 => ((spec_extStyle_next.f s0_0 s0_1 false s0_3 8).bind fun bt314 => (if 0 ≤ bt314.1 then (if bt314.1 < (y311.length : Int) then (some (rdOf ByteArray.empty y311 bt314.1, bt314.2.1, bt314.2.2.1, bt314.2.2.2)) else (none)) else (none)))) = some (r1, r2, r3, r4) := by rw [if_neg (show ¬ (false = true) by decide)] at H; exact H
    clear H
    have H := H1
    clear H1
    obtain ⟨y311, hy311⟩ : ∃ y_ : List ByteArray, y_ = (([(⟨#[]⟩ : ByteArray), (⟨#[]⟩ : ByteArray), (⟨#[]⟩ : ByteArray), (⟨#[32]⟩ : ByteArray), (⟨#[10]⟩ : ByteArray), (⟨#[9]⟩ : ByteArray), (⟨#[13, 10]⟩ : ByteArray), (⟨#[32, 32]⟩ : ByteArray)] : List ByteArray)) := ⟨_, rfl⟩
    replace H : ((spec_extStyle_next.f s0_0 s0_1 false s0_3 8).bind fun bt314 => (if 0 ≤ bt314.1 then (if bt314.1 < (y311.length : Int) then (some (rdOf ByteArray.empty y311 bt314.1, bt314.2.1, bt314.2.2.1, bt314.2.2.2)) else (none)) else (none))) = some (r1, r2, r3, r4) := by first | (rw [hy311]; with_reducible exact H) | (have H2_ := (Option.bind_some _ _).symm.trans H; rw [hy311]; with_reducible exact H2_) | (have H2_ := (Option.bind_some _ _).symm.trans H; with_reducible exact H2_) | with_reducible exact H | (rw [hy311]; exact H) | exact H
    have Ny311 := Aside0.mk hy311
    clear hy311
    replace H := Option.bind_eq_some_iff.mp H
    obtain ⟨⟨t314, t315, t316, t317⟩, A40, H⟩ := H
    replace H : (if 0 ≤ t314 then (if t314 < (y311.length : Int) then (some (rdOf ByteArray.empty y311 t314, t315, t316, t317)) else (none)) else (none)) = some (r1, r2, r3, r4) := H
    have A4 := Aside0.mk A40
    clear A40
    by_cases c5 : 0 ≤ t314
    · rw [if_pos c5] at H
      have c5b0 : decide (0 ≤ t314) = true := decide_eq_true c5
      clear c5
      by_cases c6 : t314 < (y311.length : Int)
      · rw [if_pos c6] at H
        have c6b0 : decide (t314 < (y311.length : Int)) = true := decide_eq_true c6
        clear c6
        simp only [Option.some.injEq, Prod.mk.injEq] at H
        obtain ⟨rfl, rfl, rfl, rfl⟩ := H
        obtain ⟨ASz7_0, cSz7_0, HGz7, hgz7, HSz7_0⟩ := HI0.out
        have hcz7_0 := cellS67_0 HGz7
        have hcz7_1 := cellS67_1 HGz7
        have hcz7_2 := cellS67_2 HGz7
        have hcz7_3 := cellS67_3 HGz7
        have hfz7_1 := blk_frozen HGz7 1
        have hfz7_2 := blk_frozen HGz7 2
        have hfz7_3 := blk_frozen HGz7 3
        clear HGz7 hgz7
        go_enter Tryz.func24, Tryz.ntmps24
        go_wp2_with (first | ((with_reducible refine gate_dst (N := 7) rfl ?_); refine Kd.R_lit Kd.string _ 9 ?hg (N := 7) ?hd (xs := ([(⟨#[]⟩ : ByteArray), (⟨#[]⟩ : ByteArray), (⟨#[]⟩ : ByteArray), (⟨#[32]⟩ : ByteArray), (⟨#[10]⟩ : ByteArray), (⟨#[9]⟩ : ByteArray), (⟨#[13, 10]⟩ : ByteArray), (⟨#[32, 32]⟩ : ByteArray)] : List ByteArray)) (inner := [.string (⟨#[]⟩ : ByteArray), .string (⟨#[]⟩ : ByteArray), .string (⟨#[]⟩ : ByteArray), .string (⟨#[32]⟩ : ByteArray), .string (⟨#[10]⟩ : ByteArray), .string (⟨#[9]⟩ : ByteArray), .string (⟨#[13, 10]⟩ : ByteArray), .string (⟨#[32, 32]⟩ : ByteArray)]) (ok := fun _ => True) (okp := fun _ => True) ?hr ?hp (fun _ hk => hk) trivial (Below.refl _ _) (Nat.le_refl _) (by simp) ?_; (case hd => rfl); (case hg => rfl); (case hr => first | (go_simp; done) | (go_simp; rfl)); (case hp => exact (Reps.one (show Kd.M Kd.string _ _ _ (⟨#[]⟩ : ByteArray) [.string (⟨#[]⟩ : ByteArray)] from rfl) (Reps.one (show Kd.M Kd.string _ _ _ (⟨#[]⟩ : ByteArray) [.string (⟨#[]⟩ : ByteArray)] from rfl) (Reps.one (show Kd.M Kd.string _ _ _ (⟨#[]⟩ : ByteArray) [.string (⟨#[]⟩ : ByteArray)] from rfl) (Reps.one (show Kd.M Kd.string _ _ _ (⟨#[32]⟩ : ByteArray) [.string (⟨#[32]⟩ : ByteArray)] from rfl) (Reps.one (show Kd.M Kd.string _ _ _ (⟨#[10]⟩ : ByteArray) [.string (⟨#[10]⟩ : ByteArray)] from rfl) (Reps.one (show Kd.M Kd.string _ _ _ (⟨#[9]⟩ : ByteArray) [.string (⟨#[9]⟩ : ByteArray)] from rfl) (Reps.one (show Kd.M Kd.string _ _ _ (⟨#[13, 10]⟩ : ByteArray) [.string (⟨#[13, 10]⟩ : ByteArray)] from rfl) (Reps.one (show Kd.M Kd.string _ _ _ (⟨#[32, 32]⟩ : ByteArray) [.string (⟨#[32, 32]⟩ : ByteArray)] from rfl) (Reps.none _ _)))))))))); intro v312 w8 ho9 hb hg_ hnew_; clear hg_ hnew_; (first | rw [← Ny311.out] at ho9 | (simp only [Int.reduceToNat] at ho9; rw [← Ny311.out] at ho9)); have n0_ := Aside0.mk (Kd.R_lower ho9 (keep_size (w := w) (g := g) (row := none) (by repeat (first | (with_reducible first | exact HK.out | apply KeepBut.set_ | apply keep_drewN | apply keep_drew | apply keep_alloc) | exact HK.out)))); have n1_ := Aside0.mk (IsS67.below (by repeat (first | (with_reducible first | exact HI0.out | apply IsS67.alloc | apply IsS67.drewN | apply IsS67.drew | apply IsS67.set_1 | apply IsS67.set_2 | apply IsS67.set_3) | exact HI0.out)) hb); have n2_ := Aside0.mk (KeepBut.trans (by repeat (first | (with_reducible first | exact HK.out | apply KeepBut.set_ | apply keep_drewN | apply keep_drew | apply keep_alloc) | exact HK.out)) (KeepBut.of_below hb g none) (.inl rfl)); have n3_ := Aside0.mk (below_step (by repeat (first | (with_reducible first | exact HB.out | apply below_alloc | apply pw_below_drewN | apply below_drew1 | refine below_set ?_ (IsS67.ge HI0.out)) | exact HB.out)) hb); clear HI0; clear HK; clear HB; have HO313 := n0_; have HI0 := n1_; have HK := n2_; have HB := n3_; clear n0_ n1_ n2_ n3_; clear hb ho9) | ((with_reducible refine gate_callee (f := 37) rfl ?_); refine goesL_ (some 9) rfl rfl Tryz.func37 (by kernel_rfl) rfl #[.pointer (some ⟨g, 0, none⟩), .int .i64 8] rfl (by (try simp only [List.map_toArray, List.map_cons, List.map_nil]); first | done | rfl | (simp only [List.length_drop, List.length_take]; rfl)) ?_; (with_reducible refine (spec_extStyle_next.calls g s0_0 s0_1 false s0_3 8 t314 t315 t316 t317 w0 _ ?side1 ?side2 A4.out).mono ?_); (case side1 => repeat (first | (with_reducible first | exact HI0.out | apply IsS67.alloc | apply IsS67.drewN | apply IsS67.drew | apply IsS67.set_1 | apply IsS67.set_2 | apply IsS67.set_3) | exact HI0.out)); (case side2 => repeat (first | (with_reducible first | exact HB.out | apply below_alloc | apply pw_below_drewN | apply below_drew1 | refine below_set ?_ (IsS67.ge HI0.out)) | exact HB.out)); rintro e w10 ⟨rfl, hi, hb, hk⟩; refine ⟨_, rfl, ?_⟩; have n0_ := Aside0.mk (Kd.R_mono (Kd.R_keep (IsS67.apart (show IsS67 w0 _ g s0_0 s0_1 false s0_3 from by repeat (first | (with_reducible first | exact HI0.out | apply IsS67.alloc | apply IsS67.drewN | apply IsS67.drew | apply IsS67.set_1 | apply IsS67.set_2 | apply IsS67.set_3) | exact HI0.out)) (by (with_reducible repeat (first | apply Kd.R_alloc | apply Kd.R_drewN | apply Kd.R_drew)); exact HO313.out) (by decide)) hk (fun _ h => h.2)) (fun _ h => h.1)); have n1_ := Aside0.mk (KeepBut.trans (by repeat (first | (with_reducible first | exact HK.out | apply KeepBut.set_ | apply keep_drewN | apply keep_drew | apply keep_alloc) | exact HK.out)) hk (.inl rfl)); have n2_ := Aside0.mk (hb); have n3_ := Aside0.mk (hi); clear HO313; clear HK; clear HB; clear HI0; have HO313 := n0_; have HK := n1_; have HB := n2_; have HI0 := n3_; clear n0_ n1_ n2_ n3_; (try clear hb); (try clear hb2); (try clear hk); (try clear hi); obtain ⟨Ao11, co11, eo11⟩ := Kd.R_slice HO313.out; subst eo11; have p318 : 0 ≤ (t314 : Int) := of_decide_eq_true (by first | (with_reducible assumption) | assumption); have q318 : t314 < (y311.length : Int) := of_decide_eq_true (by first | (with_reducible assumption) | assumption); obtain ⟨ad318, e318, hx318_0⟩ := Kd.at_string (Kd.R_reads' HO313.out).2.2 t314 p318 q318; cases e318; replace p318 := eq_true p318; replace q318 := eq_true q318))
        go_ret
        exact ⟨by first | rfl | (simp [errW_none, errW_some] <;> rfl) | (simp [*, errW_none, errW_some] <;> rfl), by repeat (first | (with_reducible first | exact HI0.out | apply IsS67.alloc | apply IsS67.drewN | apply IsS67.drew | apply IsS67.set_1 | apply IsS67.set_2 | apply IsS67.set_3) | exact HI0.out), by repeat (first | (with_reducible first | exact HB.out | apply below_alloc | apply pw_below_drewN | apply below_drew1 | refine below_set ?_ (IsS67.ge HI0.out)) | exact HB.out), by repeat (first | (with_reducible first | exact HK.out | apply KeepBut.set_ | apply keep_drewN | apply keep_drew | apply keep_alloc) | exact HK.out)⟩
      · rw [if_neg c6] at H
        exact absurd H (by simp)
    · rw [if_neg c5] at H
      exact absurd H (by simp)

-- NOT PRINTED: function 13 (spec_ExtMarks)

-- NOT PRINTED: function 25 (spec_decLower)

-- NOT PRINTED: function 14 (spec_ExtFloatOf)

-- NOT PRINTED: function 5 (laws_FnExtTokens)

end Go.Proofs.YtdabllkphibfmaaGreatDoor.PFnExtTokens
