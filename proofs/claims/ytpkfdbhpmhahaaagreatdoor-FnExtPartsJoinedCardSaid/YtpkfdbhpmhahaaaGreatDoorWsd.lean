/- Scalars of the writer: pointers, identities, decimals, doubles, booleans. -/
import Derived.Test.YtpkfdbhpmhahaaaGreatDoorWsc
namespace Go.Proofs.YtpkfdbhpmhahaaaGreatDoor
open Go Go.RowKit
set_option linter.unusedSimpArgs false
set_option linter.unusedVariables false

section
variable {base gw : Nat} {iv : Value} {can : Bool} {bs : List UInt8} {ms1 : List Int} {m1 m : Int} {bv : Value} {gs n cap : Nat} {w : World}

set_option maxRecDepth 100000 in
set_option maxHeartbeats 1000000 in
theorem Wr.wObjectID (h : Wr base gw iv can bs (ms1 ++ [m1]) m bv gs n cap w) (hm : m = 4 ∨ m = 5) (hB : 13 ≤ base) (hT : Tabs w) (hbl : bs.length ≤ 800000000) (ocs : Array Value) (hoi : (Tryz.prog.info? 139).map (·.size) = some ocs.size) (hoc : ocs.all (·.oneCell') = true) (it : ByteArray) (hit : it.size ≤ 400) (hI : ∀ w, Tabs w → Calls Tryz.prog 81 #[.agg ocs] w (Txt it w)) :
    Calls Tryz.prog 57 #[.pointer (some ⟨gw, 0, none⟩), .agg ocs] w (fun e w' => e = .returned .nilIface ∧ WF base gw iv can (bs ++ (esv ⟨#[111, 105, 100]⟩ it true).data.toList ++ [44]) ms1 m1 gs bv w w') := by
  obtain ⟨c0, c1, c2, c3, c4, c5, c6, cf⟩ := wcell h.blk
  have kc := fun (W : World) (s : ByteArray) => run_conv_bytes W s
  have HOC := Lib.hid hoc
  clear hoc
  have HI := Lib.hid hI
  clear hI
  have hes : (esv ⟨#[111, 105, 100]⟩ it true).size ≤ 1000 := by have := (esv_size ⟨#[111, 105, 100]⟩ it true).2; have e3 : (⟨#[111, 105, 100]⟩ : ByteArray).size = 3 := rfl; omega
  have HW := Lib.hid h
  have HF := Lib.hid (Fr.refl gw gs bv w)
  have HWS := HW
  have HT := Lib.hid hT
  have HM := Lib.hid hm
  clear h hT hm
  go_enter Tryz.func57, Tryz.ntmps57
  go_upto_region 1 with fail
  have hbA := (Below.refl w.heap.size w).alloc (Nat.le_refl _) (.cells ocs 139)
  have hNA := heap_alloc_new w (.cells ocs 139)
  have hne : w.heap.size ≠ gw ∧ w.heap.size ≠ gs ∧ bv.ownBlock ≠ some w.heap.size := by
    obtain ⟨l1, l2, l3, _⟩ := HW.out.lt
    exact ⟨by omega, by omega, fun e => by have := (l3 _ e).2; omega⟩
  generalize hWA : w.alloc (.cells ocs 139) = wA at hbA hNA ⊢
  have HBA := Lib.hid hbA
  have HNA := Lib.hid (And.intro hNA hne)
  have htA := HT.out.bel hbA (Nat.le_trans hB HW.out.lt.2.2.2)
  have hw1 := HW.out.bel hbA
  have hf1 := Fr.refl gw gs bv wA
  clear HWS HT hbA hNA hne hWA
  have HWS := Lib.hid hw1
  have HT := Lib.hid htA
  clear htA
  clear HW HF c0 c1 c2 c3 c4 c5 c6 cf
  have HW := Lib.hid hw1
  have HF := Lib.hid hf1
  clear hw1 hf1
  obtain ⟨c0, c1, c2, c3, c4, c5, c6, cf⟩ := wcell HW.out.blk
  go_wp2_with (first | (go_at_call 22; refine (HW.out.fensure HF.out HM.out _ _ _).mono ?_; rintro e1 w1 ⟨rfl, hw1, hf1⟩; clear HW HF c0 c1 c2 c3 c4 c5 c6 cf; have HW := Lib.hid hw1; have HF := Lib.hid hf1; clear hw1 hf1; obtain ⟨c0, c1, c2, c3, c4, c5, c6, cf⟩ := wcell HW.out.blk) | ((with_reducible refine wpList_at (some 12) ?_); refine wpList_load_row rfl 139 (.tmp 3) rfl w.heap.size rfl 139 ocs (0, 0) _ ((HF.out.1.block _ (lt_of_heap HNA.out.1) HNA.out.2.1 HNA.out.2.2.1 HNA.out.2.2.2).trans HNA.out.1) Tryz.underlying139 rfl (hoi) ?_) | (go_at_call 81; refine (HI.out _ (Tabs.wr HT.out HWS.out HF.out hB)).mono ?_; rintro e1 w1 ⟨rfl, hb1⟩; have hw1 := HW.out.bel hb1; have hf1 := HF.out.bel hb1; clear hb1; clear HW HF c0 c1 c2 c3 c4 c5 c6 cf; have HW := Lib.hid hw1; have HF := Lib.hid hf1; clear hw1 hf1; obtain ⟨c0, c1, c2, c3, c4, c5, c6, cf⟩ := wcell HW.out.blk) | (go_at_call 78; refine (HW.out.fesv HF.out _ _ _ (by first | decide | omega) (by first | decide | omega) (by first | omega | (simp only [List.length_append, data_length, List.length_cons, List.length_nil]; omega))).mono ?_; rintro e1 w1 ⟨rfl, bv1, gs1, n1, cap1, hw1, hf1⟩; clear HW HF c0 c1 c2 c3 c4 c5 c6 cf; have HW := Lib.hid hw1; have HF := Lib.hid hf1; clear hw1 hf1; obtain ⟨c0, c1, c2, c3, c4, c5, c6, cf⟩ := wcell HW.out.blk) | ((with_reducible refine wpList_at (some 21) ?_); refine wpList_wr_append HW.out HF.out ((Below.refl _ _).alloc (Nat.le_refl _) _) rfl _ _ rfl rfl ⟨_, 0, none⟩ 1 _ [44] rfl rfl (news_one _ 44) (by decide) (by first | omega | (simp only [List.length_append, data_length, List.length_cons, List.length_nil]; omega)) ?_; intro g1 ln1 cp1 w1 hg hw1 hf1; have hcc := wcell (hg.trans HW.out.blk); clear HW HF c0 c1 c2 c3 c4 c5 c6 cf hg; have HW := hw1; have HF := hf1; clear hw1 hf1; obtain ⟨c0, c1, c2, c3, c4, c5, c6, cf⟩ := hcc) | (go_at_call 46; refine (HW.out.fpop1 HF.out HM.out).mono ?_; rintro e1 w1 ⟨rfl, bv1, gs1, n1, cap1, hw1, hf1⟩; clear HW HF c0 c1 c2 c3 c4 c5 c6 cf; have HW := Lib.hid hw1; have HF := Lib.hid hf1; clear hw1 hf1; obtain ⟨c0, c1, c2, c3, c4, c5, c6, cf⟩ := wcell HW.out.blk))
  go_ret
  exact ⟨rfl, _, _, _, _, HW.out, Fr.pre HF.out HBA.out⟩

set_option maxRecDepth 100000 in
set_option maxHeartbeats 1000000 in
theorem Wr.wDecimal128 (h : Wr base gw iv can bs (ms1 ++ [m1]) m bv gs n cap w) (hm : m = 4 ∨ m = 5) (hB : 13 ≤ base) (hT : Tabs w) (hbl : bs.length ≤ 800000000) (ocs : Array Value) (hoi : (Tryz.prog.info? 125).map (·.size) = some ocs.size) (hoc : ocs.all (·.oneCell') = true) (it : ByteArray) (hit : it.size ≤ 400) (hI : ∀ w, Tabs w → Calls Tryz.prog 86 #[.agg ocs] w (Txt it w)) :
    Calls Tryz.prog 69 #[.pointer (some ⟨gw, 0, none⟩), .agg ocs] w (fun e w' => e = .returned .nilIface ∧ WF base gw iv can (bs ++ (esv ⟨#[110, 117, 109, 98, 101, 114, 68, 101, 99, 105, 109, 97, 108]⟩ it true).data.toList ++ [44]) ms1 m1 gs bv w w') := by
  obtain ⟨c0, c1, c2, c3, c4, c5, c6, cf⟩ := wcell h.blk
  have kc := fun (W : World) (s : ByteArray) => run_conv_bytes W s
  have HOC := Lib.hid hoc
  clear hoc
  have HI := Lib.hid hI
  clear hI
  have hes : (esv ⟨#[110, 117, 109, 98, 101, 114, 68, 101, 99, 105, 109, 97, 108]⟩ it true).size ≤ 1000 := by have := (esv_size ⟨#[110, 117, 109, 98, 101, 114, 68, 101, 99, 105, 109, 97, 108]⟩ it true).2; have e3 : (⟨#[110, 117, 109, 98, 101, 114, 68, 101, 99, 105, 109, 97, 108]⟩ : ByteArray).size = 13 := rfl; omega
  have HW := Lib.hid h
  have HF := Lib.hid (Fr.refl gw gs bv w)
  have HWS := HW
  have HT := Lib.hid hT
  have HM := Lib.hid hm
  clear h hT hm
  go_enter Tryz.func69, Tryz.ntmps69
  go_upto_region 1 with fail
  have hbA := (Below.refl w.heap.size w).alloc (Nat.le_refl _) (.cells ocs 125)
  have hNA := heap_alloc_new w (.cells ocs 125)
  have hne : w.heap.size ≠ gw ∧ w.heap.size ≠ gs ∧ bv.ownBlock ≠ some w.heap.size := by
    obtain ⟨l1, l2, l3, _⟩ := HW.out.lt
    exact ⟨by omega, by omega, fun e => by have := (l3 _ e).2; omega⟩
  generalize hWA : w.alloc (.cells ocs 125) = wA at hbA hNA ⊢
  have HBA := Lib.hid hbA
  have HNA := Lib.hid (And.intro hNA hne)
  have htA := HT.out.bel hbA (Nat.le_trans hB HW.out.lt.2.2.2)
  have hw1 := HW.out.bel hbA
  have hf1 := Fr.refl gw gs bv wA
  clear HWS HT hbA hNA hne hWA
  have HWS := Lib.hid hw1
  have HT := Lib.hid htA
  clear htA
  clear HW HF c0 c1 c2 c3 c4 c5 c6 cf
  have HW := Lib.hid hw1
  have HF := Lib.hid hf1
  clear hw1 hf1
  obtain ⟨c0, c1, c2, c3, c4, c5, c6, cf⟩ := wcell HW.out.blk
  go_wp2_with (first | (go_at_call 22; refine (HW.out.fensure HF.out HM.out _ _ _).mono ?_; rintro e1 w1 ⟨rfl, hw1, hf1⟩; clear HW HF c0 c1 c2 c3 c4 c5 c6 cf; have HW := Lib.hid hw1; have HF := Lib.hid hf1; clear hw1 hf1; obtain ⟨c0, c1, c2, c3, c4, c5, c6, cf⟩ := wcell HW.out.blk) | ((with_reducible refine wpList_at (some 12) ?_); refine wpList_load_row rfl 125 (.tmp 3) rfl w.heap.size rfl 125 ocs (0, 0) _ ((HF.out.1.block _ (lt_of_heap HNA.out.1) HNA.out.2.1 HNA.out.2.2.1 HNA.out.2.2.2).trans HNA.out.1) Tryz.underlying125 rfl (hoi) ?_) | (go_at_call 86; refine (HI.out _ (Tabs.wr HT.out HWS.out HF.out hB)).mono ?_; rintro e1 w1 ⟨rfl, hb1⟩; have hw1 := HW.out.bel hb1; have hf1 := HF.out.bel hb1; clear hb1; clear HW HF c0 c1 c2 c3 c4 c5 c6 cf; have HW := Lib.hid hw1; have HF := Lib.hid hf1; clear hw1 hf1; obtain ⟨c0, c1, c2, c3, c4, c5, c6, cf⟩ := wcell HW.out.blk) | (go_at_call 78; refine (HW.out.fesv HF.out _ _ _ (by first | decide | omega) (by first | decide | omega) (by first | omega | (simp only [List.length_append, data_length, List.length_cons, List.length_nil]; omega))).mono ?_; rintro e1 w1 ⟨rfl, bv1, gs1, n1, cap1, hw1, hf1⟩; clear HW HF c0 c1 c2 c3 c4 c5 c6 cf; have HW := Lib.hid hw1; have HF := Lib.hid hf1; clear hw1 hf1; obtain ⟨c0, c1, c2, c3, c4, c5, c6, cf⟩ := wcell HW.out.blk) | ((with_reducible refine wpList_at (some 21) ?_); refine wpList_wr_append HW.out HF.out ((Below.refl _ _).alloc (Nat.le_refl _) _) rfl _ _ rfl rfl ⟨_, 0, none⟩ 1 _ [44] rfl rfl (news_one _ 44) (by decide) (by first | omega | (simp only [List.length_append, data_length, List.length_cons, List.length_nil]; omega)) ?_; intro g1 ln1 cp1 w1 hg hw1 hf1; have hcc := wcell (hg.trans HW.out.blk); clear HW HF c0 c1 c2 c3 c4 c5 c6 cf hg; have HW := hw1; have HF := hf1; clear hw1 hf1; obtain ⟨c0, c1, c2, c3, c4, c5, c6, cf⟩ := hcc) | (go_at_call 46; refine (HW.out.fpop1 HF.out HM.out).mono ?_; rintro e1 w1 ⟨rfl, bv1, gs1, n1, cap1, hw1, hf1⟩; clear HW HF c0 c1 c2 c3 c4 c5 c6 cf; have HW := Lib.hid hw1; have HF := Lib.hid hf1; clear hw1 hf1; obtain ⟨c0, c1, c2, c3, c4, c5, c6, cf⟩ := wcell HW.out.blk))
  go_ret
  exact ⟨rfl, _, _, _, _, HW.out, Fr.pre HF.out HBA.out⟩

set_option maxRecDepth 100000 in
set_option maxHeartbeats 1000000 in
theorem Wr.wDBPointer (h : Wr base gw iv can bs (ms1 ++ [m1]) m bv gs n cap w) (hm : m = 4 ∨ m = 5) (hB : 13 ≤ base) (hT : Tabs w) (hbl : bs.length ≤ 800000000) (ns : ByteArray) (hns : ns.size ≤ 5000) (ocs : Array Value) (hoi : (Tryz.prog.info? 139).map (·.size) = some ocs.size) (hoc : ocs.all (·.oneCell') = true) (it : ByteArray) (hit : it.size ≤ 400) (hI : ∀ w, Tabs w → Calls Tryz.prog 81 #[.agg ocs] w (Txt it w)) (TX : List UInt8) (hTX : TX = [] ++ (⟨#[123, 34, 36, 100, 98, 80, 111, 105, 110, 116, 101, 114, 34, 58, 123, 34, 36, 114, 101, 102, 34, 58, 34]⟩ : ByteArray).data.toList ++ ns.data.toList ++ (⟨#[34, 44, 34, 36, 105, 100, 34, 58, 123, 34, 36, 111, 105, 100, 34, 58, 34]⟩ : ByteArray).data.toList ++ it.data.toList ++ (⟨#[34, 125, 125, 125, 44]⟩ : ByteArray).data.toList) (hTl : TX.length ≤ 20000) (hTp : 0 < TX.length) :
    Calls Tryz.prog 63 #[.pointer (some ⟨gw, 0, none⟩), .string ns, .agg ocs] w (fun e w' => e = .returned .nilIface ∧ WF base gw iv can (bs ++ TX) ms1 m1 gs bv w w') := by
  obtain ⟨c0, c1, c2, c3, c4, c5, c6, cf⟩ := wcell h.blk
  have kc := fun (W : World) (s : ByteArray) => run_conv_bytes W s
  have HTX := Lib.hid hTX
  clear hTX
  have HOC := Lib.hid hoc
  clear hoc
  have HI := Lib.hid hI
  clear hI
  have HW := Lib.hid h
  have HF := Lib.hid (Fr.refl gw gs bv w)
  have HWS := HW
  have HT := Lib.hid hT
  have HM := Lib.hid hm
  clear h hT hm
  go_enter Tryz.func63, Tryz.ntmps63
  go_upto_region 1 with fail
  have hbA := (Below.refl w.heap.size w).alloc (Nat.le_refl _) (.cells ocs 139)
  have hNA := heap_alloc_new w (.cells ocs 139)
  have hne : w.heap.size ≠ gw ∧ w.heap.size ≠ gs ∧ bv.ownBlock ≠ some w.heap.size := by
    obtain ⟨l1, l2, l3, _⟩ := HW.out.lt
    exact ⟨by omega, by omega, fun e => by have := (l3 _ e).2; omega⟩
  generalize hWA : w.alloc (.cells ocs 139) = wA at hbA hNA ⊢
  have HBA := Lib.hid hbA
  have HNA := Lib.hid (And.intro hNA hne)
  have htA := HT.out.bel hbA (Nat.le_trans hB HW.out.lt.2.2.2)
  have hw1 := HW.out.bel hbA
  have hf1 := Fr.refl gw gs bv wA
  clear HWS HT hbA hNA hne hWA
  have HWS := Lib.hid hw1
  have HT := Lib.hid htA
  clear htA
  clear HW HF c0 c1 c2 c3 c4 c5 c6 cf
  have HW := Lib.hid hw1
  have HF := Lib.hid hf1
  clear hw1 hf1
  obtain ⟨c0, c1, c2, c3, c4, c5, c6, cf⟩ := wcell HW.out.blk
  go_upto_region 5 with (first | (go_at_call 22; refine (HW.out.fensure HF.out HM.out _ _ _).mono ?_; rintro e1 w1 ⟨rfl, hw1, hf1⟩; clear HW HF c0 c1 c2 c3 c4 c5 c6 cf; have HW := Lib.hid hw1; have HF := Lib.hid hf1; clear hw1 hf1; obtain ⟨c0, c1, c2, c3, c4, c5, c6, cf⟩ := wcell HW.out.blk))
  have HBF := Lib.hid (BSt.fresh (Below.refl w1.heap.size w1))
  generalize hWb : w1.alloc (.cells #[.slice none 0 0, .int .i64 0, .int .i8 0] 39) = Wb at HBF ⊢
  have HW0 := HW
  have HF0 := HF
  have HB13 : Hid (13 ≤ w1.heap.size) := Lib.hid (Nat.le_trans hB HW0.out.lt.2.2.2)
  have hw1 := HW0.out.bel HBF.out.below
  have hf1 := HF0.out.bel HBF.out.below
  clear hWb
  clear HW HF c0 c1 c2 c3 c4 c5 c6 cf
  have HW := Lib.hid hw1
  have HF := Lib.hid hf1
  clear hw1 hf1
  obtain ⟨c0, c1, c2, c3, c4, c5, c6, cf⟩ := wcell HW.out.blk
  go_upto_region 10 with (first | ((with_reducible refine wpList_at (some 18) ?_); refine wpList_load_row rfl 139 (.tmp 5) rfl w.heap.size rfl 139 ocs (0, 0) _ ((HF.out.1.block _ (lt_of_heap HNA.out.1) HNA.out.2.1 HNA.out.2.2.1 HNA.out.2.2.2).trans HNA.out.1) Tryz.underlying139 rfl (hoi) ?_) | (go_at_call 81; refine (HI.out _ (Tabs.wr HT.out HWS.out HF.out hB)).mono ?_; rintro e1 w2 ⟨rfl, hb2⟩; have hbf := HBF.out.go hb2; clear HBF hb2; have HBF := Lib.hid hbf; clear hbf; have hw1 := HW0.out.bel HBF.out.below; have hf1 := HF0.out.bel HBF.out.below; clear HW HF c0 c1 c2 c3 c4 c5 c6 cf; have HW := Lib.hid hw1; have HF := Lib.hid hf1; clear hw1 hf1; obtain ⟨c0, c1, c2, c3, c4, c5, c6, cf⟩ := wcell HW.out.blk) | (go_at_call 50; refine (HBF.out.str (by first | decide | omega | (simp only [List.length_append, data_length, List.length_cons, List.length_nil]; omega)) _ (by first | decide | omega)).mono ?_; rintro e1 w2 ⟨rfl, hb2⟩; clear HBF; have HBF := Lib.hid hb2; clear hb2; have hw1 := HW0.out.bel HBF.out.below; have hf1 := HF0.out.bel HBF.out.below; clear HW HF c0 c1 c2 c3 c4 c5 c6 cf; have HW := Lib.hid hw1; have HF := Lib.hid hf1; clear hw1 hf1; obtain ⟨c0, c1, c2, c3, c4, c5, c6, cf⟩ := wcell HW.out.blk))
  have HBT : Hid (BSt _ _ TX _ _) := Lib.hid (by rw [HTX.out]; exact HBF.out)
  clear HBF
  have HBF := HBT
  clear HBT
  refine wp_region_noPanic ?_
  refine wp_region_held_drew (S := fun _ => True) (by kernel_rfl) (trivial) (fun hHeld => ?_)
  refine takeH (i := 0) (some 22) ?vd73 rfl rfl (by kernel_rfl) (by kernel_rfl) (by kernel_rfl) (fun _ _ _ h => h) (by rfl) ?yd74 (by assumption) ?rd75
  case yd74 => intro W hSw; go_simp; all_goals with_reducible rfl
  try simp only [Act.put, List.setIfInBounds_toArray, List.set_cons_zero, List.set_cons_succ]
  refine takeH (i := 1) (some 23) ?vd76 rfl rfl (by kernel_rfl) (by kernel_rfl) (by kernel_rfl) (fun _ _ _ h => h) (by rfl) ?yd77 (by assumption) ?rd78
  case yd77 => intro W hSw; go_simp; all_goals with_reducible rfl
  try simp only [Act.put, List.setIfInBounds_toArray, List.set_cons_zero, List.set_cons_succ]
  refine takeH (i := 2) (some 24) ?vd79 rfl rfl (by kernel_rfl) (by kernel_rfl) (by kernel_rfl) (fun _ _ _ h => h) (by rfl) ?yd80 (by assumption) ?rd81
  case yd80 => intro W hSw; go_simp; all_goals with_reducible rfl
  try simp only [Act.put, List.setIfInBounds_toArray, List.set_cons_zero, List.set_cons_succ]
  refine takeH (i := 3) (some 25) ?vd82 rfl rfl (by kernel_rfl) (by kernel_rfl) (by kernel_rfl) (fun _ _ _ h => h) (by rfl) ?yd83 (by assumption) ?rd84
  case yd83 => intro W hSw; go_simp; all_goals with_reducible rfl
  try simp only [Act.put, List.setIfInBounds_toArray, List.set_cons_zero, List.set_cons_succ]
  refine wpAnyH_ready (rs := [4, 5]) (by kernel_rfl) (by simp) ?_
  refine (AllReadyH.cons rfl (fun K hK => ?_) (AllReadyH.cons rfl (fun K hK => ?_) AllReadyH.nil))
  · go_simp
    refine hK.out _ _ (trivial) (fun hHeld => ?_)
    clear hK K
    try simp only [Act.put, List.setIfInBounds_toArray, List.set_cons_zero, List.set_cons_succ]
    refine wpAnyH_ready (rs := [5]) (by kernel_rfl) (by simp) ?_
    refine (AllReadyH.cons rfl (fun K hK => ?_) AllReadyH.nil)
    go_simp
    refine ((HBF.out.dr).bytes (by first | decide | omega | (simp only [List.length_append, data_length, List.length_cons, List.length_nil]; omega))).mono ?_
    rintro e2 w2 ⟨gv, cv, rfl, hnews, hb2⟩
    have HBF2 := Lib.hid hb2
    have HNW := Lib.hid hnews
    clear hb2 hnews
    obtain ⟨f0, f1, f2, f3, f4, f5, f6, ff⟩ := wcell (HW0.out.bel HBF2.out.below).blk
    refine hK.out _ _ (trivial) (fun hHeld => ?_)
    clear hK K
    try simp only [Act.put, List.setIfInBounds_toArray, List.set_cons_zero, List.set_cons_succ]
    refine wpAnyH_ready (rs := [6]) (by kernel_rfl) (by simp) ?_
    refine (AllReadyH.cons rfl (fun K hK => ?_) AllReadyH.nil)
    rw [if_pos (by rfl)]
    refine wp_wr_append HW0.out HF0.out HBF2.out.below _ _ rfl rfl ⟨gv, 0, none⟩ _ _ (TX) rfl rfl HNW.out (by first | decide | omega | (simp only [List.length_append, data_length, List.length_cons, List.length_nil]; omega)) (by first | decide | omega | (simp only [List.length_append, data_length, List.length_cons, List.length_nil]; omega)) ?_
    intro g1 ln1 cp1 w3 hg hw1 hf1
    have HW1 := hw1
    have HF1 := hf1
    obtain ⟨d0, d1, d2, d3, d4, d5, d6, df⟩ := wcell (hg.trans HW0.out.blk)
    clear hw1 hf1 hg
    refine hK.out _ _ (trivial) (fun hHeld => ?_)
    clear hK K
    try simp only [Act.put, List.setIfInBounds_toArray, List.set_cons_zero, List.set_cons_succ]
    refine takeH (i := 7) (some 29) ?vd85 rfl rfl (by kernel_rfl) (by kernel_rfl) (by kernel_rfl) (fun _ _ _ h => h) (by rfl) ?yd86 (by assumption) ?rd87
    case yd86 => intro W hSw; go_simp; all_goals with_reducible rfl
    try simp only [Act.put, List.setIfInBounds_toArray, List.set_cons_zero, List.set_cons_succ]
    refine takeH (i := 8) (some 30) ?vd88 rfl rfl (by kernel_rfl) (by kernel_rfl) (by kernel_rfl) (fun _ _ _ h => h) (by rfl) ?yd89 (by assumption) ?rd90
    case yd89 => intro W hSw; go_simp; all_goals with_reducible rfl
    try simp only [Act.put, List.setIfInBounds_toArray, List.set_cons_zero, List.set_cons_succ]
    refine wpAnyH_ready (rs := [9]) (by kernel_rfl) (by simp) ?_
    refine (AllReadyH.cons rfl (fun K hK => ?_) AllReadyH.nil)
    go_simp
    refine hK.out _ _ (trivial) (fun hHeld => ?_)
    clear hK K
    try simp only [Act.put, List.setIfInBounds_toArray, List.set_cons_zero, List.set_cons_succ]
    refine wpAnyH_done (by kernel_rfl) ?_ _
    refine NoPanic.normal ?_
    generalize w3.setCell ⟨gw, 1, none⟩ (.slice (some ⟨g1, 0, none⟩) ln1 cp1) = W2 at HW1 HF1 ⊢
    clear HW HF c0 c1 c2 c3 c4 c5 c6 cf d0 d1 d2 d3 d4 d5 d6 df f0 f1 f2 f3 f4 f5 f6 ff
    have HW := HW1
    have HF := HF1
    clear HW1 HF1
    obtain ⟨c0, c1, c2, c3, c4, c5, c6, cf⟩ := wcell HW.out.blk
    go_wp2_with (first | (go_at_call 46; refine (HW.out.fpop1 HF.out HM.out).mono ?_; rintro e1 w1 ⟨rfl, bv1, gs1, n1, cap1, hw1, hf1⟩; clear HW HF c0 c1 c2 c3 c4 c5 c6 cf; have HW := Lib.hid hw1; have HF := Lib.hid hf1; clear hw1 hf1; obtain ⟨c0, c1, c2, c3, c4, c5, c6, cf⟩ := wcell HW.out.blk))
    go_ret
    exact ⟨rfl, _, _, _, _, HW.out, Fr.pre HF.out HBA.out⟩
  · go_simp
    refine ((HBF.out.dr).bytes (by first | decide | omega | (simp only [List.length_append, data_length, List.length_cons, List.length_nil]; omega))).mono ?_
    rintro e2 w2 ⟨gv, cv, rfl, hnews, hb2⟩
    have HBF2 := Lib.hid hb2
    have HNW := Lib.hid hnews
    clear hb2 hnews
    obtain ⟨f0, f1, f2, f3, f4, f5, f6, ff⟩ := wcell (HW0.out.bel HBF2.out.below).blk
    refine hK.out _ _ (trivial) (fun hHeld => ?_)
    clear hK K
    try simp only [Act.put, List.setIfInBounds_toArray, List.set_cons_zero, List.set_cons_succ]
    refine wpAnyH_ready (rs := [4]) (by kernel_rfl) (by simp) ?_
    refine (AllReadyH.cons rfl (fun K hK => ?_) AllReadyH.nil)
    go_simp
    refine hK.out _ _ (trivial) (fun hHeld => ?_)
    clear hK K
    try simp only [Act.put, List.setIfInBounds_toArray, List.set_cons_zero, List.set_cons_succ]
    refine wpAnyH_ready (rs := [6]) (by kernel_rfl) (by simp) ?_
    refine (AllReadyH.cons rfl (fun K hK => ?_) AllReadyH.nil)
    rw [if_pos (by rfl)]
    refine wp_wr_append HW0.out HF0.out HBF2.out.below _ _ rfl rfl ⟨gv, 0, none⟩ _ _ (TX) rfl rfl HNW.out (by first | decide | omega | (simp only [List.length_append, data_length, List.length_cons, List.length_nil]; omega)) (by first | decide | omega | (simp only [List.length_append, data_length, List.length_cons, List.length_nil]; omega)) ?_
    intro g1 ln1 cp1 w3 hg hw1 hf1
    have HW1 := hw1
    have HF1 := hf1
    obtain ⟨d0, d1, d2, d3, d4, d5, d6, df⟩ := wcell (hg.trans HW0.out.blk)
    clear hw1 hf1 hg
    refine hK.out _ _ (trivial) (fun hHeld => ?_)
    clear hK K
    try simp only [Act.put, List.setIfInBounds_toArray, List.set_cons_zero, List.set_cons_succ]
    refine takeH (i := 7) (some 29) ?vd91 rfl rfl (by kernel_rfl) (by kernel_rfl) (by kernel_rfl) (fun _ _ _ h => h) (by rfl) ?yd92 (by assumption) ?rd93
    case yd92 => intro W hSw; go_simp; all_goals with_reducible rfl
    try simp only [Act.put, List.setIfInBounds_toArray, List.set_cons_zero, List.set_cons_succ]
    refine takeH (i := 8) (some 30) ?vd94 rfl rfl (by kernel_rfl) (by kernel_rfl) (by kernel_rfl) (fun _ _ _ h => h) (by rfl) ?yd95 (by assumption) ?rd96
    case yd95 => intro W hSw; go_simp; all_goals with_reducible rfl
    try simp only [Act.put, List.setIfInBounds_toArray, List.set_cons_zero, List.set_cons_succ]
    refine wpAnyH_ready (rs := [9]) (by kernel_rfl) (by simp) ?_
    refine (AllReadyH.cons rfl (fun K hK => ?_) AllReadyH.nil)
    go_simp
    refine hK.out _ _ (trivial) (fun hHeld => ?_)
    clear hK K
    try simp only [Act.put, List.setIfInBounds_toArray, List.set_cons_zero, List.set_cons_succ]
    refine wpAnyH_done (by kernel_rfl) ?_ _
    refine NoPanic.normal ?_
    generalize w3.setCell ⟨gw, 1, none⟩ (.slice (some ⟨g1, 0, none⟩) ln1 cp1) = W2 at HW1 HF1 ⊢
    clear HW HF c0 c1 c2 c3 c4 c5 c6 cf d0 d1 d2 d3 d4 d5 d6 df f0 f1 f2 f3 f4 f5 f6 ff
    have HW := HW1
    have HF := HF1
    clear HW1 HF1
    obtain ⟨c0, c1, c2, c3, c4, c5, c6, cf⟩ := wcell HW.out.blk
    go_wp2_with (first | (go_at_call 46; refine (HW.out.fpop1 HF.out HM.out).mono ?_; rintro e1 w1 ⟨rfl, bv1, gs1, n1, cap1, hw1, hf1⟩; clear HW HF c0 c1 c2 c3 c4 c5 c6 cf; have HW := Lib.hid hw1; have HF := Lib.hid hf1; clear hw1 hf1; obtain ⟨c0, c1, c2, c3, c4, c5, c6, cf⟩ := wcell HW.out.blk))
    go_ret
    exact ⟨rfl, _, _, _, _, HW.out, Fr.pre HF.out HBA.out⟩
end

end Go.Proofs.YtpkfdbhpmhahaaaGreatDoor
