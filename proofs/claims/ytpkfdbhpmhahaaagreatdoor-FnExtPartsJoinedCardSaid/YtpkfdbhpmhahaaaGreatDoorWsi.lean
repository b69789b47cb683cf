/- The writer: ends. -/
import Derived.Test.YtpkfdbhpmhahaaaGreatDoorWsh
namespace Go.Proofs.YtpkfdbhpmhahaaaGreatDoor
open Go Go.RowKit
set_option linter.unusedSimpArgs false
set_option linter.unusedVariables false

section
variable {base gw : Nat} {iv : Value} {can : Bool} {bs : List UInt8} {ms0 ms1 : List Int} {m1 m2 m : Int} {pre : List UInt8} {x : UInt8} {bv : Value} {gs n cap : Nat} {w : World}

set_option maxRecDepth 100000 in
set_option maxHeartbeats 4000000 in
theorem Wr.wArrayEnd (h : Wr base gw iv can (pre ++ [x]) ms0 3 bv gs n cap w) (hB : 13 ≤ base) (hT : Tabs w) (hbl : pre.length ≤ 800000000) (hd : ms0.length ≤ 700) (hms : ms0 = ms1 ++ [m1, m2]) :
    Calls Tryz.prog 42 #[.pointer (some ⟨gw, 0, none⟩)] w (fun e w' => e = .returned .nilIface ∧ WF base gw iv can (closeB pre x 93 ++ [44]) ms1 m1 gs bv w w') := by
  obtain ⟨c0, c1, c2, c3, c4, c5, c6, cf⟩ := wcell h.blk
  obtain ⟨t0, tf⟩ := h.top
  have hn1 := h.nle
  have kc := fun (W : World) (s : ByteArray) => run_conv_bytes W s
  have HW := Lib.hid h
  have HF := Lib.hid (Fr.refl gw gs bv w)
  have HWS := HW
  have HT := Lib.hid hT
  have HD : Hid (ms0.length ≤ 800) := Lib.hid (by omega)
  have HMS := Lib.hid hms
  clear hms
  clear h hT hd
  have hf0 : (0 : Int) ≤ (ms0.length : Nat) := by omega
  have hf1 : ((ms0.length : Nat) : Int) < (n : Nat) := by omega
  clear hn1
  obtain ⟨gb, cvb, rfl, hlc, hlf, hlv⟩ := HW.out.lastcell
  have ew : IntKind.i64.wrap (((pre.length + 1 : Nat) : Int) - 1) = (pre.length : Nat) := by rw [IntKind.wrap_i64]; omega
  have ew1 : IntKind.i64.wrap ((pre.length : Nat) : Int) = (pre.length : Nat) := by rw [IntKind.wrap_i64]; omega
  have ew2 : (0 : Int) ≤ ((pre.length : Nat) : Int) := by omega
  have ew3 : ((pre.length : Nat) : Int) < ((pre.length + 1 : Nat) : Int) := by omega
  have ew4 : ((pre.length : Nat) : Int) < ((pre.length : Nat) : Int) + 1 := by omega
  by_cases hx : x = 44
  · subst hx
    have e0 : closeB pre 44 93 = pre ++ [93] := rfl
    rw [e0]
    clear e0
    go_enter Tryz.func42, Tryz.ntmps42
    go_wp2
    go_quiet (fail)
    have hq := below_dn (Below.refl w.heap.size w) nq
    have hw1 := HW.out.bel hq
    have hf1 := HF.out.bel hq
    generalize w.drewN nq = wa at hw1 hf1 ⊢
    clear HW HF c0 c1 c2 c3 c4 c5 c6 cf hq t0 tf
    try clear hlc hlf hlv
    have HW := Lib.hid hw1
    have HF := Lib.hid hf1
    clear hw1 hf1
    obtain ⟨c0, c1, c2, c3, c4, c5, c6, cf⟩ := wcell HW.out.blk
    obtain ⟨t0, tf⟩ := HW.out.top
    obtain ⟨_, _, hbv, hlc, hlf, hlv⟩ := HW.out.lastcell
    cases hbv
    replace hlc : World.cell? _ _ = some (.int .u8 44) := hlc
    go_wp2
    go_quiet (fail)
    have hq := below_dn (Below.refl wa.heap.size wa) nq
    have hw1 := HW.out.bel hq
    have hf1 := HF.out.bel hq
    generalize wa.drewN nq = wb at hw1 hf1 ⊢
    clear HW HF c0 c1 c2 c3 c4 c5 c6 cf hq t0 tf
    try clear hlc hlf hlv
    have HW := Lib.hid hw1
    have HF := Lib.hid hf1
    clear hw1 hf1
    obtain ⟨c0, c1, c2, c3, c4, c5, c6, cf⟩ := wcell HW.out.blk
    obtain ⟨t0, tf⟩ := HW.out.top
    obtain ⟨_, _, hbv, hlc, hlf, hlv⟩ := HW.out.lastcell
    cases hbv
    replace hlc : World.cell? _ _ = some (.int .u8 44) := hlc
    go_wp2
    go_still_tail 11, (by kernel_rfl)
    go_upto_region 7 with (fail)
    have hw1 : Wr base gw iv can (pre ++ [93]) ms0 3 (.slice (some ⟨gb, 0, none⟩) (pre.length + 1) cvb) gs n cap (wb.setCell ⟨gb, pre.length, none⟩ (.int .u8 93)).drew := (HW.out.setlast 93).bel (below_drew (Below.refl _ _))
    have hf1 : Fr gw gs _ w gs _ (wb.setCell ⟨gb, pre.length, none⟩ (.int .u8 93)).drew := (HF.out.setrow pre.length _).bel (below_drew (Below.refl _ _))
    generalize (wb.setCell ⟨gb, pre.length, none⟩ (.int .u8 93)).drew = wc at hw1 hf1 ⊢
    clear HW HF c0 c1 c2 c3 c4 c5 c6 cf t0 tf hlc hlf hlv
    have HW := Lib.hid hw1
    have HF := Lib.hid hf1
    clear hw1 hf1
    obtain ⟨c0, c1, c2, c3, c4, c5, c6, cf⟩ := wcell HW.out.blk
    obtain ⟨t0, tf⟩ := HW.out.top
    go_wp2_with (first | ((with_reducible refine wpList_at (some 56) ?_); refine wpList_wr_append HW.out HF.out ((Below.refl _ _).alloc (Nat.le_refl _) _) rfl _ _ rfl rfl ⟨_, 0, none⟩ 1 _ [44] rfl rfl (news_one _ 44) (by decide) (by first | omega | (simp only [List.length_append, data_length, List.length_cons, List.length_nil]; omega)) ?_; intro g1 ln1 cp1 w1 hg hw1 hf1; have hcc := wcell (hg.trans HW.out.blk); clear HW HF c0 c1 c2 c3 c4 c5 c6 cf hg; have HW := hw1; have HF := hf1; clear hw1 hf1; obtain ⟨c0, c1, c2, c3, c4, c5, c6, cf⟩ := hcc) | (go_at_call 46; have hws := HW.out; rw [HMS.out] at hws; refine (hws.fpop2 HF.out (by decide)).mono ?_; clear hws; rintro e1 w1 ⟨rfl, bv1, gs1, n1, cap1, hw1, hf1⟩; clear HW HF c0 c1 c2 c3 c4 c5 c6 cf; have HW := Lib.hid hw1; have HF := Lib.hid hf1; clear hw1 hf1; obtain ⟨c0, c1, c2, c3, c4, c5, c6, cf⟩ := wcell HW.out.blk))
    go_ret
    exact ⟨rfl, _, _, _, _, HW.out, HF.out⟩
  · have e0 : closeB pre x 93 = pre ++ [x] ++ [93] := by simp [closeB, hx]
    have hx2 : ¬ ((x.toNat : Int) = 44) := fun e => hx (UInt8.toNat_inj.1 (by simpa using (by omega : x.toNat = 44)))
    rw [e0]
    clear e0 hx
    go_enter Tryz.func42, Tryz.ntmps42
    go_wp2
    go_quiet (fail)
    have hq := below_dn (Below.refl w.heap.size w) nq
    have hw1 := HW.out.bel hq
    have hf1 := HF.out.bel hq
    generalize w.drewN nq = wa at hw1 hf1 ⊢
    clear HW HF c0 c1 c2 c3 c4 c5 c6 cf hq t0 tf
    try clear hlc hlf hlv
    have HW := Lib.hid hw1
    have HF := Lib.hid hf1
    clear hw1 hf1
    obtain ⟨c0, c1, c2, c3, c4, c5, c6, cf⟩ := wcell HW.out.blk
    obtain ⟨t0, tf⟩ := HW.out.top
    obtain ⟨_, _, hbv, hlc, hlf, hlv⟩ := HW.out.lastcell
    cases hbv
    replace hlc : World.cell? _ _ = some (.int .u8 (x.toNat : Int)) := hlc
    go_wp2
    go_quiet (fail)
    have hq := below_dn (Below.refl wa.heap.size wa) nq
    have hw1 := HW.out.bel hq
    have hf1 := HF.out.bel hq
    generalize wa.drewN nq = wb at hw1 hf1 ⊢
    clear HW HF c0 c1 c2 c3 c4 c5 c6 cf hq t0 tf
    try clear hlc hlf hlv
    have HW := Lib.hid hw1
    have HF := Lib.hid hf1
    clear hw1 hf1
    obtain ⟨c0, c1, c2, c3, c4, c5, c6, cf⟩ := wcell HW.out.blk
    obtain ⟨t0, tf⟩ := HW.out.top
    obtain ⟨_, _, hbv, hlc, hlf, hlv⟩ := HW.out.lastcell
    cases hbv
    replace hlc : World.cell? _ _ = some (.int .u8 (x.toNat : Int)) := hlc
    go_upto_region 7 with (first | ((with_reducible refine wpList_at (some 47) ?_); refine wpList_wr_append HW.out HF.out ((Below.refl _ _).alloc (Nat.le_refl _) _) rfl _ _ rfl rfl ⟨_, 0, none⟩ 1 _ [93] rfl rfl (news_one _ 93) (by decide) (by first | omega | (simp only [List.length_append, data_length, List.length_cons, List.length_nil]; omega)) ?_; intro g1 ln1 cp1 w1 hg hw1 hf1; have hcc := wcell (hg.trans HW.out.blk); clear t0 tf hlc hlf hlv; clear HW HF c0 c1 c2 c3 c4 c5 c6 cf hg; have HW := hw1; have HF := hf1; clear hw1 hf1; obtain ⟨c0, c1, c2, c3, c4, c5, c6, cf⟩ := hcc))
    generalize w1.setCell ⟨gw, 1, none⟩ (.slice (some ⟨g1, 0, none⟩) ln1 cp1) = wc at HW HF ⊢
    clear c0 c1 c2 c3 c4 c5 c6 cf
    obtain ⟨c0, c1, c2, c3, c4, c5, c6, cf⟩ := wcell HW.out.blk
    obtain ⟨t0, tf⟩ := HW.out.top
    go_wp2_with (first | ((with_reducible refine wpList_at (some 56) ?_); refine wpList_wr_append HW.out HF.out ((Below.refl _ _).alloc (Nat.le_refl _) _) rfl _ _ rfl rfl ⟨_, 0, none⟩ 1 _ [44] rfl rfl (news_one _ 44) (by decide) (by first | omega | (simp only [List.length_append, data_length, List.length_cons, List.length_nil]; omega)) ?_; intro g1 ln1 cp1 w1 hg hw1 hf1; have hcc := wcell (hg.trans HW.out.blk); clear HW HF c0 c1 c2 c3 c4 c5 c6 cf hg; have HW := hw1; have HF := hf1; clear hw1 hf1; obtain ⟨c0, c1, c2, c3, c4, c5, c6, cf⟩ := hcc) | (go_at_call 46; have hws := HW.out; rw [HMS.out] at hws; refine (hws.fpop2 HF.out (by decide)).mono ?_; clear hws; rintro e1 w1 ⟨rfl, bv1, gs1, n1, cap1, hw1, hf1⟩; clear HW HF c0 c1 c2 c3 c4 c5 c6 cf; have HW := Lib.hid hw1; have HF := Lib.hid hf1; clear hw1 hf1; obtain ⟨c0, c1, c2, c3, c4, c5, c6, cf⟩ := wcell HW.out.blk))
    go_ret
    exact ⟨rfl, _, _, _, _, HW.out, HF.out⟩

set_option maxRecDepth 100000 in
set_option maxHeartbeats 4000000 in
theorem Wr.wDocEnd2 (h : Wr base gw iv can (pre ++ [x]) ms0 2 bv gs n cap w) (hB : 13 ≤ base) (hT : Tabs w) (hbl : pre.length ≤ 800000000) (hd : ms0.length ≤ 700) (hms : ms0 = ms1 ++ [m1, m2]) :
    Calls Tryz.prog 26 #[.pointer (some ⟨gw, 0, none⟩)] w (fun e w' => e = .returned .nilIface ∧ WF base gw iv can (closeB pre x 125 ++ [44]) ms1 m1 gs bv w w') := by
  obtain ⟨c0, c1, c2, c3, c4, c5, c6, cf⟩ := wcell h.blk
  obtain ⟨t0, tf⟩ := h.top
  have hn1 := h.nle
  have kc := fun (W : World) (s : ByteArray) => run_conv_bytes W s
  have HW := Lib.hid h
  have HF := Lib.hid (Fr.refl gw gs bv w)
  have HWS := HW
  have HT := Lib.hid hT
  have HD : Hid (ms0.length ≤ 800) := Lib.hid (by omega)
  have HMS := Lib.hid hms
  clear hms
  clear h hT hd
  have hf0 : (0 : Int) ≤ (ms0.length : Nat) := by omega
  have hf1 : ((ms0.length : Nat) : Int) < (n : Nat) := by omega
  clear hn1
  obtain ⟨gb, cvb, rfl, hlc, hlf, hlv⟩ := HW.out.lastcell
  have ew : IntKind.i64.wrap (((pre.length + 1 : Nat) : Int) - 1) = (pre.length : Nat) := by rw [IntKind.wrap_i64]; omega
  have ew1 : IntKind.i64.wrap ((pre.length : Nat) : Int) = (pre.length : Nat) := by rw [IntKind.wrap_i64]; omega
  have ew2 : (0 : Int) ≤ ((pre.length : Nat) : Int) := by omega
  have ew3 : ((pre.length : Nat) : Int) < ((pre.length + 1 : Nat) : Int) := by omega
  have ew4 : ((pre.length : Nat) : Int) < ((pre.length : Nat) : Int) + 1 := by omega
  by_cases hx : x = 44
  · subst hx
    have e0 : closeB pre 44 125 = pre ++ [125] := rfl
    rw [e0]
    clear e0
    go_enter Tryz.func26, Tryz.ntmps26
    go_wp2
    go_quiet (fail)
    have hq := below_dn (Below.refl w.heap.size w) nq
    have hw1 := HW.out.bel hq
    have hf1 := HF.out.bel hq
    generalize w.drewN nq = wa at hw1 hf1 ⊢
    clear HW HF c0 c1 c2 c3 c4 c5 c6 cf hq t0 tf
    try clear hlc hlf hlv
    have HW := Lib.hid hw1
    have HF := Lib.hid hf1
    clear hw1 hf1
    obtain ⟨c0, c1, c2, c3, c4, c5, c6, cf⟩ := wcell HW.out.blk
    obtain ⟨t0, tf⟩ := HW.out.top
    obtain ⟨_, _, hbv, hlc, hlf, hlv⟩ := HW.out.lastcell
    cases hbv
    replace hlc : World.cell? _ _ = some (.int .u8 44) := hlc
    go_wp2
    go_quiet (fail)
    have hq := below_dn (Below.refl wa.heap.size wa) nq
    have hw1 := HW.out.bel hq
    have hf1 := HF.out.bel hq
    generalize wa.drewN nq = wb at hw1 hf1 ⊢
    clear HW HF c0 c1 c2 c3 c4 c5 c6 cf hq t0 tf
    try clear hlc hlf hlv
    have HW := Lib.hid hw1
    have HF := Lib.hid hf1
    clear hw1 hf1
    obtain ⟨c0, c1, c2, c3, c4, c5, c6, cf⟩ := wcell HW.out.blk
    obtain ⟨t0, tf⟩ := HW.out.top
    obtain ⟨_, _, hbv, hlc, hlf, hlv⟩ := HW.out.lastcell
    cases hbv
    replace hlc : World.cell? _ _ = some (.int .u8 44) := hlc
    go_wp2
    go_still_tail 11, (by kernel_rfl)
    go_wp2
    have hw1 : Wr base gw iv can (pre ++ [125]) ms0 2 (.slice (some ⟨gb, 0, none⟩) (pre.length + 1) cvb) gs n cap (wb.setCell ⟨gb, pre.length, none⟩ (.int .u8 125)).drew := (HW.out.setlast 125).bel (below_drew (Below.refl _ _))
    have hf1 : Fr gw gs _ w gs _ (wb.setCell ⟨gb, pre.length, none⟩ (.int .u8 125)).drew := (HF.out.setrow pre.length _).bel (below_drew (Below.refl _ _))
    generalize (wb.setCell ⟨gb, pre.length, none⟩ (.int .u8 125)).drew = wc at hw1 hf1 ⊢
    clear HW HF c0 c1 c2 c3 c4 c5 c6 cf t0 tf hlc hlf hlv
    have HW := Lib.hid hw1
    have HF := Lib.hid hf1
    clear hw1 hf1
    obtain ⟨c0, c1, c2, c3, c4, c5, c6, cf⟩ := wcell HW.out.blk
    obtain ⟨t0, tf⟩ := HW.out.top
    go_quiet (fail)
    have hq := below_dn (Below.refl wc.heap.size wc) nq
    have hw1 := HW.out.bel hq
    have hf1 := HF.out.bel hq
    generalize wc.drewN nq = wd at hw1 hf1 ⊢
    clear HW HF c0 c1 c2 c3 c4 c5 c6 cf hq t0 tf
    have HW := Lib.hid hw1
    have HF := Lib.hid hf1
    clear hw1 hf1
    obtain ⟨c0, c1, c2, c3, c4, c5, c6, cf⟩ := wcell HW.out.blk
    obtain ⟨t0, tf⟩ := HW.out.top
    go_wp2_with (first | ((with_reducible refine wpList_at (some 86) ?_); refine wpList_wr_append HW.out HF.out ((Below.refl _ _).alloc (Nat.le_refl _) _) rfl _ _ rfl rfl ⟨_, 0, none⟩ 1 _ [44] rfl rfl (news_one _ 44) (by decide) (by first | omega | (simp only [List.length_append, data_length, List.length_cons, List.length_nil]; omega)) ?_; intro g1 ln1 cp1 w1 hg hw1 hf1; have hcc := wcell (hg.trans HW.out.blk); clear HW HF c0 c1 c2 c3 c4 c5 c6 cf hg; have HW := hw1; have HF := hf1; clear hw1 hf1; obtain ⟨c0, c1, c2, c3, c4, c5, c6, cf⟩ := hcc) | (go_at_call 46; have hws := HW.out; rw [HMS.out] at hws; refine (hws.fpop2 HF.out (by decide)).mono ?_; clear hws; rintro e1 w1 ⟨rfl, bv1, gs1, n1, cap1, hw1, hf1⟩; clear HW HF c0 c1 c2 c3 c4 c5 c6 cf; have HW := Lib.hid hw1; have HF := Lib.hid hf1; clear hw1 hf1; obtain ⟨c0, c1, c2, c3, c4, c5, c6, cf⟩ := wcell HW.out.blk))
    go_ret
    exact ⟨rfl, _, _, _, _, HW.out, HF.out⟩
  · have e0 : closeB pre x 125 = pre ++ [x] ++ [125] := by simp [closeB, hx]
    have hx2 : ¬ ((x.toNat : Int) = 44) := fun e => hx (UInt8.toNat_inj.1 (by simpa using (by omega : x.toNat = 44)))
    rw [e0]
    clear e0 hx
    go_enter Tryz.func26, Tryz.ntmps26
    go_wp2
    go_quiet (fail)
    have hq := below_dn (Below.refl w.heap.size w) nq
    have hw1 := HW.out.bel hq
    have hf1 := HF.out.bel hq
    generalize w.drewN nq = wa at hw1 hf1 ⊢
    clear HW HF c0 c1 c2 c3 c4 c5 c6 cf hq t0 tf
    try clear hlc hlf hlv
    have HW := Lib.hid hw1
    have HF := Lib.hid hf1
    clear hw1 hf1
    obtain ⟨c0, c1, c2, c3, c4, c5, c6, cf⟩ := wcell HW.out.blk
    obtain ⟨t0, tf⟩ := HW.out.top
    obtain ⟨_, _, hbv, hlc, hlf, hlv⟩ := HW.out.lastcell
    cases hbv
    replace hlc : World.cell? _ _ = some (.int .u8 (x.toNat : Int)) := hlc
    go_wp2
    go_quiet (fail)
    have hq := below_dn (Below.refl wa.heap.size wa) nq
    have hw1 := HW.out.bel hq
    have hf1 := HF.out.bel hq
    generalize wa.drewN nq = wb at hw1 hf1 ⊢
    clear HW HF c0 c1 c2 c3 c4 c5 c6 cf hq t0 tf
    try clear hlc hlf hlv
    have HW := Lib.hid hw1
    have HF := Lib.hid hf1
    clear hw1 hf1
    obtain ⟨c0, c1, c2, c3, c4, c5, c6, cf⟩ := wcell HW.out.blk
    obtain ⟨t0, tf⟩ := HW.out.top
    obtain ⟨_, _, hbv, hlc, hlf, hlv⟩ := HW.out.lastcell
    cases hbv
    replace hlc : World.cell? _ _ = some (.int .u8 (x.toNat : Int)) := hlc
    go_upto_region 9 with (first | ((with_reducible refine wpList_at (some 51) ?_); refine wpList_wr_append HW.out HF.out ((Below.refl _ _).alloc (Nat.le_refl _) _) rfl _ _ rfl rfl ⟨_, 0, none⟩ 1 _ [125] rfl rfl (news_one _ 125) (by decide) (by first | omega | (simp only [List.length_append, data_length, List.length_cons, List.length_nil]; omega)) ?_; intro g1 ln1 cp1 w1 hg hw1 hf1; have hcc := wcell (hg.trans HW.out.blk); clear t0 tf hlc hlf hlv; clear HW HF c0 c1 c2 c3 c4 c5 c6 cf hg; have HW := hw1; have HF := hf1; clear hw1 hf1; obtain ⟨c0, c1, c2, c3, c4, c5, c6, cf⟩ := hcc))
    generalize w1.setCell ⟨gw, 1, none⟩ (.slice (some ⟨g1, 0, none⟩) ln1 cp1) = wc at HW HF ⊢
    clear c0 c1 c2 c3 c4 c5 c6 cf
    obtain ⟨c0, c1, c2, c3, c4, c5, c6, cf⟩ := wcell HW.out.blk
    obtain ⟨t0, tf⟩ := HW.out.top
    go_quiet (fail)
    have hq := below_dn (Below.refl wc.heap.size wc) nq
    have hw1 := HW.out.bel hq
    have hf1 := HF.out.bel hq
    generalize wc.drewN nq = wd at hw1 hf1 ⊢
    clear HW HF c0 c1 c2 c3 c4 c5 c6 cf hq t0 tf
    have HW := Lib.hid hw1
    have HF := Lib.hid hf1
    clear hw1 hf1
    obtain ⟨c0, c1, c2, c3, c4, c5, c6, cf⟩ := wcell HW.out.blk
    obtain ⟨t0, tf⟩ := HW.out.top
    go_wp2_with (first | ((with_reducible refine wpList_at (some 86) ?_); refine wpList_wr_append HW.out HF.out ((Below.refl _ _).alloc (Nat.le_refl _) _) rfl _ _ rfl rfl ⟨_, 0, none⟩ 1 _ [44] rfl rfl (news_one _ 44) (by decide) (by first | omega | (simp only [List.length_append, data_length, List.length_cons, List.length_nil]; omega)) ?_; intro g1 ln1 cp1 w1 hg hw1 hf1; have hcc := wcell (hg.trans HW.out.blk); clear HW HF c0 c1 c2 c3 c4 c5 c6 cf hg; have HW := hw1; have HF := hf1; clear hw1 hf1; obtain ⟨c0, c1, c2, c3, c4, c5, c6, cf⟩ := hcc) | (go_at_call 46; have hws := HW.out; rw [HMS.out] at hws; refine (hws.fpop2 HF.out (by decide)).mono ?_; clear hws; rintro e1 w1 ⟨rfl, bv1, gs1, n1, cap1, hw1, hf1⟩; clear HW HF c0 c1 c2 c3 c4 c5 c6 cf; have HW := Lib.hid hw1; have HF := Lib.hid hf1; clear hw1 hf1; obtain ⟨c0, c1, c2, c3, c4, c5, c6, cf⟩ := wcell HW.out.blk))
    go_ret
    exact ⟨rfl, _, _, _, _, HW.out, HF.out⟩

set_option maxRecDepth 100000 in
set_option maxHeartbeats 4000000 in
theorem Wr.wDocEnd6 (h : Wr base gw iv can (pre ++ [x]) ms0 6 bv gs n cap w) (hB : 13 ≤ base) (hT : Tabs w) (hbl : pre.length ≤ 800000000) (hd : ms0.length ≤ 700) (hms : ms0 = ms1 ++ [m1, m2]) :
    Calls Tryz.prog 26 #[.pointer (some ⟨gw, 0, none⟩)] w (fun e w' => e = .returned .nilIface ∧ WF base gw iv can (closeB pre x 125 ++ [125] ++ [44]) ms1 m1 gs bv w w') := by
  obtain ⟨c0, c1, c2, c3, c4, c5, c6, cf⟩ := wcell h.blk
  obtain ⟨t0, tf⟩ := h.top
  have hn1 := h.nle
  have kc := fun (W : World) (s : ByteArray) => run_conv_bytes W s
  have HW := Lib.hid h
  have HF := Lib.hid (Fr.refl gw gs bv w)
  have HWS := HW
  have HT := Lib.hid hT
  have HD : Hid (ms0.length ≤ 800) := Lib.hid (by omega)
  have HMS := Lib.hid hms
  clear hms
  clear h hT hd
  have hf0 : (0 : Int) ≤ (ms0.length : Nat) := by omega
  have hf1 : ((ms0.length : Nat) : Int) < (n : Nat) := by omega
  clear hn1
  obtain ⟨gb, cvb, rfl, hlc, hlf, hlv⟩ := HW.out.lastcell
  have ew : IntKind.i64.wrap (((pre.length + 1 : Nat) : Int) - 1) = (pre.length : Nat) := by rw [IntKind.wrap_i64]; omega
  have ew1 : IntKind.i64.wrap ((pre.length : Nat) : Int) = (pre.length : Nat) := by rw [IntKind.wrap_i64]; omega
  have ew2 : (0 : Int) ≤ ((pre.length : Nat) : Int) := by omega
  have ew3 : ((pre.length : Nat) : Int) < ((pre.length + 1 : Nat) : Int) := by omega
  have ew4 : ((pre.length : Nat) : Int) < ((pre.length : Nat) : Int) + 1 := by omega
  by_cases hx : x = 44
  · subst hx
    have e0 : closeB pre 44 125 = pre ++ [125] := rfl
    rw [e0]
    clear e0
    go_enter Tryz.func26, Tryz.ntmps26
    go_wp2
    go_quiet (fail)
    have hq := below_dn (Below.refl w.heap.size w) nq
    have hw1 := HW.out.bel hq
    have hf1 := HF.out.bel hq
    generalize w.drewN nq = wa at hw1 hf1 ⊢
    clear HW HF c0 c1 c2 c3 c4 c5 c6 cf hq t0 tf
    try clear hlc hlf hlv
    have HW := Lib.hid hw1
    have HF := Lib.hid hf1
    clear hw1 hf1
    obtain ⟨c0, c1, c2, c3, c4, c5, c6, cf⟩ := wcell HW.out.blk
    obtain ⟨t0, tf⟩ := HW.out.top
    obtain ⟨_, _, hbv, hlc, hlf, hlv⟩ := HW.out.lastcell
    cases hbv
    replace hlc : World.cell? _ _ = some (.int .u8 44) := hlc
    go_wp2
    go_quiet (fail)
    have hq := below_dn (Below.refl wa.heap.size wa) nq
    have hw1 := HW.out.bel hq
    have hf1 := HF.out.bel hq
    generalize wa.drewN nq = wb at hw1 hf1 ⊢
    clear HW HF c0 c1 c2 c3 c4 c5 c6 cf hq t0 tf
    try clear hlc hlf hlv
    have HW := Lib.hid hw1
    have HF := Lib.hid hf1
    clear hw1 hf1
    obtain ⟨c0, c1, c2, c3, c4, c5, c6, cf⟩ := wcell HW.out.blk
    obtain ⟨t0, tf⟩ := HW.out.top
    obtain ⟨_, _, hbv, hlc, hlf, hlv⟩ := HW.out.lastcell
    cases hbv
    replace hlc : World.cell? _ _ = some (.int .u8 44) := hlc
    go_wp2
    go_still_tail 11, (by kernel_rfl)
    go_wp2
    have hw1 : Wr base gw iv can (pre ++ [125]) ms0 6 (.slice (some ⟨gb, 0, none⟩) (pre.length + 1) cvb) gs n cap (wb.setCell ⟨gb, pre.length, none⟩ (.int .u8 125)).drew := (HW.out.setlast 125).bel (below_drew (Below.refl _ _))
    have hf1 : Fr gw gs _ w gs _ (wb.setCell ⟨gb, pre.length, none⟩ (.int .u8 125)).drew := (HF.out.setrow pre.length _).bel (below_drew (Below.refl _ _))
    generalize (wb.setCell ⟨gb, pre.length, none⟩ (.int .u8 125)).drew = wc at hw1 hf1 ⊢
    clear HW HF c0 c1 c2 c3 c4 c5 c6 cf t0 tf hlc hlf hlv
    have HW := Lib.hid hw1
    have HF := Lib.hid hf1
    clear hw1 hf1
    obtain ⟨c0, c1, c2, c3, c4, c5, c6, cf⟩ := wcell HW.out.blk
    obtain ⟨t0, tf⟩ := HW.out.top
    go_quiet (fail)
    have hq := below_dn (Below.refl wc.heap.size wc) nq
    have hw1 := HW.out.bel hq
    have hf1 := HF.out.bel hq
    generalize wc.drewN nq = wd at hw1 hf1 ⊢
    clear HW HF c0 c1 c2 c3 c4 c5 c6 cf hq t0 tf
    have HW := Lib.hid hw1
    have HF := Lib.hid hf1
    clear hw1 hf1
    obtain ⟨c0, c1, c2, c3, c4, c5, c6, cf⟩ := wcell HW.out.blk
    obtain ⟨t0, tf⟩ := HW.out.top
    go_upto_region 14 with (first | ((with_reducible refine wpList_at (some 77) ?_); refine wpList_wr_append HW.out HF.out ((Below.refl _ _).alloc (Nat.le_refl _) _) rfl _ _ rfl rfl ⟨_, 0, none⟩ 1 _ [125] rfl rfl (news_one _ 125) (by decide) (by first | omega | (simp only [List.length_append, data_length, List.length_cons, List.length_nil]; omega)) ?_; intro g1 ln1 cp1 w1 hg hw1 hf1; have hcc := wcell (hg.trans HW.out.blk); clear t0 tf; clear HW HF c0 c1 c2 c3 c4 c5 c6 cf hg; have HW := hw1; have HF := hf1; clear hw1 hf1; obtain ⟨c0, c1, c2, c3, c4, c5, c6, cf⟩ := hcc))
    generalize w1.setCell ⟨gw, 1, none⟩ (.slice (some ⟨g1, 0, none⟩) ln1 cp1) = we at HW HF ⊢
    clear c0 c1 c2 c3 c4 c5 c6 cf
    obtain ⟨c0, c1, c2, c3, c4, c5, c6, cf⟩ := wcell HW.out.blk
    obtain ⟨t0, tf⟩ := HW.out.top
    go_wp2_with (first | ((with_reducible refine wpList_at (some 86) ?_); refine wpList_wr_append HW.out HF.out ((Below.refl _ _).alloc (Nat.le_refl _) _) rfl _ _ rfl rfl ⟨_, 0, none⟩ 1 _ [44] rfl rfl (news_one _ 44) (by decide) (by first | omega | (simp only [List.length_append, data_length, List.length_cons, List.length_nil]; omega)) ?_; intro g1 ln1 cp1 w1 hg hw1 hf1; have hcc := wcell (hg.trans HW.out.blk); clear HW HF c0 c1 c2 c3 c4 c5 c6 cf hg; have HW := hw1; have HF := hf1; clear hw1 hf1; obtain ⟨c0, c1, c2, c3, c4, c5, c6, cf⟩ := hcc) | (go_at_call 46; have hws := HW.out; rw [HMS.out] at hws; refine (hws.fpop2 HF.out (by decide)).mono ?_; clear hws; rintro e1 w1 ⟨rfl, bv1, gs1, n1, cap1, hw1, hf1⟩; clear HW HF c0 c1 c2 c3 c4 c5 c6 cf; have HW := Lib.hid hw1; have HF := Lib.hid hf1; clear hw1 hf1; obtain ⟨c0, c1, c2, c3, c4, c5, c6, cf⟩ := wcell HW.out.blk))
    go_ret
    exact ⟨rfl, _, _, _, _, HW.out, HF.out⟩
  · have e0 : closeB pre x 125 = pre ++ [x] ++ [125] := by simp [closeB, hx]
    have hx2 : ¬ ((x.toNat : Int) = 44) := fun e => hx (UInt8.toNat_inj.1 (by simpa using (by omega : x.toNat = 44)))
    rw [e0]
    clear e0 hx
    go_enter Tryz.func26, Tryz.ntmps26
    go_wp2
    go_quiet (fail)
    have hq := below_dn (Below.refl w.heap.size w) nq
    have hw1 := HW.out.bel hq
    have hf1 := HF.out.bel hq
    generalize w.drewN nq = wa at hw1 hf1 ⊢
    clear HW HF c0 c1 c2 c3 c4 c5 c6 cf hq t0 tf
    try clear hlc hlf hlv
    have HW := Lib.hid hw1
    have HF := Lib.hid hf1
    clear hw1 hf1
    obtain ⟨c0, c1, c2, c3, c4, c5, c6, cf⟩ := wcell HW.out.blk
    obtain ⟨t0, tf⟩ := HW.out.top
    obtain ⟨_, _, hbv, hlc, hlf, hlv⟩ := HW.out.lastcell
    cases hbv
    replace hlc : World.cell? _ _ = some (.int .u8 (x.toNat : Int)) := hlc
    go_wp2
    go_quiet (fail)
    have hq := below_dn (Below.refl wa.heap.size wa) nq
    have hw1 := HW.out.bel hq
    have hf1 := HF.out.bel hq
    generalize wa.drewN nq = wb at hw1 hf1 ⊢
    clear HW HF c0 c1 c2 c3 c4 c5 c6 cf hq t0 tf
    try clear hlc hlf hlv
    have HW := Lib.hid hw1
    have HF := Lib.hid hf1
    clear hw1 hf1
    obtain ⟨c0, c1, c2, c3, c4, c5, c6, cf⟩ := wcell HW.out.blk
    obtain ⟨t0, tf⟩ := HW.out.top
    obtain ⟨_, _, hbv, hlc, hlf, hlv⟩ := HW.out.lastcell
    cases hbv
    replace hlc : World.cell? _ _ = some (.int .u8 (x.toNat : Int)) := hlc
    go_upto_region 9 with (first | ((with_reducible refine wpList_at (some 51) ?_); refine wpList_wr_append HW.out HF.out ((Below.refl _ _).alloc (Nat.le_refl _) _) rfl _ _ rfl rfl ⟨_, 0, none⟩ 1 _ [125] rfl rfl (news_one _ 125) (by decide) (by first | omega | (simp only [List.length_append, data_length, List.length_cons, List.length_nil]; omega)) ?_; intro g1 ln1 cp1 w1 hg hw1 hf1; have hcc := wcell (hg.trans HW.out.blk); clear t0 tf hlc hlf hlv; clear HW HF c0 c1 c2 c3 c4 c5 c6 cf hg; have HW := hw1; have HF := hf1; clear hw1 hf1; obtain ⟨c0, c1, c2, c3, c4, c5, c6, cf⟩ := hcc))
    generalize w1.setCell ⟨gw, 1, none⟩ (.slice (some ⟨g1, 0, none⟩) ln1 cp1) = wc at HW HF ⊢
    clear c0 c1 c2 c3 c4 c5 c6 cf
    obtain ⟨c0, c1, c2, c3, c4, c5, c6, cf⟩ := wcell HW.out.blk
    obtain ⟨t0, tf⟩ := HW.out.top
    go_quiet (fail)
    have hq := below_dn (Below.refl wc.heap.size wc) nq
    have hw1 := HW.out.bel hq
    have hf1 := HF.out.bel hq
    generalize wc.drewN nq = wd at hw1 hf1 ⊢
    clear HW HF c0 c1 c2 c3 c4 c5 c6 cf hq t0 tf
    have HW := Lib.hid hw1
    have HF := Lib.hid hf1
    clear hw1 hf1
    obtain ⟨c0, c1, c2, c3, c4, c5, c6, cf⟩ := wcell HW.out.blk
    obtain ⟨t0, tf⟩ := HW.out.top
    go_upto_region 14 with (first | ((with_reducible refine wpList_at (some 77) ?_); refine wpList_wr_append HW.out HF.out ((Below.refl _ _).alloc (Nat.le_refl _) _) rfl _ _ rfl rfl ⟨_, 0, none⟩ 1 _ [125] rfl rfl (news_one _ 125) (by decide) (by first | omega | (simp only [List.length_append, data_length, List.length_cons, List.length_nil]; omega)) ?_; intro g1 ln1 cp1 w1 hg hw1 hf1; have hcc := wcell (hg.trans HW.out.blk); clear t0 tf; clear HW HF c0 c1 c2 c3 c4 c5 c6 cf hg; have HW := hw1; have HF := hf1; clear hw1 hf1; obtain ⟨c0, c1, c2, c3, c4, c5, c6, cf⟩ := hcc))
    generalize w1.setCell ⟨gw, 1, none⟩ (.slice (some ⟨g1, 0, none⟩) ln1 cp1) = we at HW HF ⊢
    clear c0 c1 c2 c3 c4 c5 c6 cf
    obtain ⟨c0, c1, c2, c3, c4, c5, c6, cf⟩ := wcell HW.out.blk
    obtain ⟨t0, tf⟩ := HW.out.top
    go_wp2_with (first | ((with_reducible refine wpList_at (some 86) ?_); refine wpList_wr_append HW.out HF.out ((Below.refl _ _).alloc (Nat.le_refl _) _) rfl _ _ rfl rfl ⟨_, 0, none⟩ 1 _ [44] rfl rfl (news_one _ 44) (by decide) (by first | omega | (simp only [List.length_append, data_length, List.length_cons, List.length_nil]; omega)) ?_; intro g1 ln1 cp1 w1 hg hw1 hf1; have hcc := wcell (hg.trans HW.out.blk); clear HW HF c0 c1 c2 c3 c4 c5 c6 cf hg; have HW := hw1; have HF := hf1; clear hw1 hf1; obtain ⟨c0, c1, c2, c3, c4, c5, c6, cf⟩ := hcc) | (go_at_call 46; have hws := HW.out; rw [HMS.out] at hws; refine (hws.fpop2 HF.out (by decide)).mono ?_; clear hws; rintro e1 w1 ⟨rfl, bv1, gs1, n1, cap1, hw1, hf1⟩; clear HW HF c0 c1 c2 c3 c4 c5 c6 cf; have HW := Lib.hid hw1; have HF := Lib.hid hf1; clear hw1 hf1; obtain ⟨c0, c1, c2, c3, c4, c5, c6, cf⟩ := wcell HW.out.blk))
    go_ret
    exact ⟨rfl, _, _, _, _, HW.out, HF.out⟩
end

end Go.Proofs.YtpkfdbhpmhahaaaGreatDoor
