/- The writer: documents, arrays, scopes, their elements. -/
import Derived.Test.YtpkfdbhpmhahaaaGreatDoorWsf
namespace Go.Proofs.YtpkfdbhpmhahaaaGreatDoor
open Go Go.RowKit
set_option linter.unusedSimpArgs false
set_option linter.unusedVariables false

section
variable {base gw : Nat} {iv : Value} {can : Bool} {bs : List UInt8} {ms0 ms1 : List Int} {m1 m2 m : Int} {pre : List UInt8} {x : UInt8} {bv : Value} {gs n cap : Nat} {w : World}

set_option maxRecDepth 100000 in
set_option maxHeartbeats 4000000 in
theorem Wr.wArray (h : Wr base gw iv can bs ms0 m bv gs n cap w) (hm : m = 4 ∨ m = 5) (hB : 13 ≤ base) (hT : Tabs w) (hbl : bs.length ≤ 800000000) (hd : ms0.length ≤ 700) :
    Calls Tryz.prog 40 #[.pointer (some ⟨gw, 0, none⟩)] w (fun e w' => e = .returned (.tuple #[.iface 40 (.pointer (some ⟨gw, 0, none⟩)), .nilIface]) ∧ WF base gw iv can (bs ++ [91]) (ms0 ++ [m]) 3 gs bv w w') := by
  obtain ⟨c0, c1, c2, c3, c4, c5, c6, cf⟩ := wcell h.blk
  obtain ⟨t0, tf⟩ := h.top
  have hn1 := h.nle
  have kc := fun (W : World) (s : ByteArray) => run_conv_bytes W s
  have HW := Lib.hid h
  have HF := Lib.hid (Fr.refl gw gs bv w)
  have HWS := HW
  have HT := Lib.hid hT
  have HD : Hid (ms0.length ≤ 800) := Lib.hid (by omega)
  have HM := Lib.hid hm
  clear hm
  clear h hT hd
  clear t0 tf hn1
  go_enter Tryz.func40, Tryz.ntmps40
  go_wp2_with (first | (go_at_call 22; refine (HW.out.fensure HF.out HM.out _ _ _).mono ?_; rintro e1 w1 ⟨rfl, hw1, hf1⟩; clear HW HF c0 c1 c2 c3 c4 c5 c6 cf; have HW := Lib.hid hw1; have HF := Lib.hid hf1; clear hw1 hf1; obtain ⟨c0, c1, c2, c3, c4, c5, c6, cf⟩ := wcell HW.out.blk) | ((with_reducible refine wpList_at (some 16) ?_); refine wpList_wr_append HW.out HF.out ((Below.refl _ _).alloc (Nat.le_refl _) _) rfl _ _ rfl rfl ⟨_, 0, none⟩ 1 _ [91] rfl rfl (news_one _ 91) (by decide) (by first | omega | (simp only [List.length_append, data_length, List.length_cons, List.length_nil]; omega)) ?_; intro g1 ln1 cp1 w1 hg hw1 hf1; have hcc := wcell (hg.trans HW.out.blk); clear HW HF c0 c1 c2 c3 c4 c5 c6 cf hg; have HW := hw1; have HF := hf1; clear hw1 hf1; obtain ⟨c0, c1, c2, c3, c4, c5, c6, cf⟩ := hcc) | (go_at_call 23; refine (HW.out.fpush HF.out HD.out _).mono ?_; rintro e1 w1 ⟨rfl, bv1, gs1, n1, cap1, hw1, hf1⟩; clear HW HF c0 c1 c2 c3 c4 c5 c6 cf; have HW := Lib.hid hw1; have HF := Lib.hid hf1; clear hw1 hf1; obtain ⟨c0, c1, c2, c3, c4, c5, c6, cf⟩ := wcell HW.out.blk))
  go_ret2
  exact ⟨rfl, _, _, _, _, HW.out, HF.out⟩

set_option maxRecDepth 100000 in
set_option maxHeartbeats 4000000 in
theorem Wr.wDocument (h : Wr base gw iv can bs ms0 m bv gs n cap w) (hm : m = 4 ∨ m = 5) (hB : 13 ≤ base) (hT : Tabs w) (hbl : bs.length ≤ 800000000) (hd : ms0.length ≤ 700) :
    Calls Tryz.prog 11 #[.pointer (some ⟨gw, 0, none⟩)] w (fun e w' => e = .returned (.tuple #[.iface 40 (.pointer (some ⟨gw, 0, none⟩)), .nilIface]) ∧ WF base gw iv can (bs ++ [123]) (ms0 ++ [m]) 2 gs bv w w') := by
  obtain ⟨c0, c1, c2, c3, c4, c5, c6, cf⟩ := wcell h.blk
  obtain ⟨t0, tf⟩ := h.top
  have hn1 := h.nle
  have kc := fun (W : World) (s : ByteArray) => run_conv_bytes W s
  have HW := Lib.hid h
  have HF := Lib.hid (Fr.refl gw gs bv w)
  have HWS := HW
  have HT := Lib.hid hT
  have HD : Hid (ms0.length ≤ 800) := Lib.hid (by omega)
  clear h hT hd
  have hf0 : (0 : Int) ≤ (ms0.length : Nat) := by omega
  have hf1 : ((ms0.length : Nat) : Int) < (n : Nat) := by omega
  clear hn1
  have HM := Lib.hid hm
  rcases hm with rfl | rfl
  all_goals
    go_enter Tryz.func11, Tryz.ntmps11
    go_wp2
    go_quiet (fail)
    have hq := below_dn (Below.refl w.heap.size w) nq
    have hw1 := HW.out.bel hq
    have hf1 := HF.out.bel hq
    generalize w.drewN nq = wq at hw1 hf1 ⊢
    clear HW HF c0 c1 c2 c3 c4 c5 c6 cf t0 tf hq
    have HW := Lib.hid hw1
    have HF := Lib.hid hf1
    clear hw1 hf1
    obtain ⟨c0, c1, c2, c3, c4, c5, c6, cf⟩ := wcell HW.out.blk
    go_wp2_with (first | (go_at_call 22; refine ((HW.out.bel ((Below.refl _ _).alloc (Nat.le_refl _) _)).fensure (HF.out.bel ((Below.refl _ _).alloc (Nat.le_refl _) _)) (by decide) _ _ _).mono ?_; rintro e1 w1 ⟨rfl, hw1, hf1⟩; clear HW HF c0 c1 c2 c3 c4 c5 c6 cf; have HW := Lib.hid hw1; have HF := Lib.hid hf1; clear hw1 hf1; obtain ⟨c0, c1, c2, c3, c4, c5, c6, cf⟩ := wcell HW.out.blk) | ((with_reducible refine wpList_at (some 40) ?_); refine wpList_wr_append HW.out HF.out ((Below.refl _ _).alloc (Nat.le_refl _) _) rfl _ _ rfl rfl ⟨_, 0, none⟩ 1 _ [123] rfl rfl (news_one _ 123) (by decide) (by first | omega | (simp only [List.length_append, data_length, List.length_cons, List.length_nil]; omega)) ?_; intro g1 ln1 cp1 w1 hg hw1 hf1; have hcc := wcell (hg.trans HW.out.blk); clear HW HF c0 c1 c2 c3 c4 c5 c6 cf hg; have HW := hw1; have HF := hf1; clear hw1 hf1; obtain ⟨c0, c1, c2, c3, c4, c5, c6, cf⟩ := hcc) | (go_at_call 23; refine (HW.out.fpush HF.out HD.out _).mono ?_; rintro e1 w1 ⟨rfl, bv1, gs1, n1, cap1, hw1, hf1⟩; clear HW HF c0 c1 c2 c3 c4 c5 c6 cf; have HW := Lib.hid hw1; have HF := Lib.hid hf1; clear hw1 hf1; obtain ⟨c0, c1, c2, c3, c4, c5, c6, cf⟩ := wcell HW.out.blk))
    
    go_ret2
    exact ⟨rfl, _, _, _, _, HW.out, HF.out⟩

set_option maxRecDepth 100000 in
set_option maxHeartbeats 4000000 in
theorem Wr.wDocumentTop (h : Wr base gw iv can bs ms0 1 bv gs n cap w) (hB : 13 ≤ base) (hT : Tabs w) (hbl : bs.length ≤ 800000000) (hd : ms0.length ≤ 700) :
    Calls Tryz.prog 11 #[.pointer (some ⟨gw, 0, none⟩)] w (fun e w' => e = .returned (.tuple #[.iface 40 (.pointer (some ⟨gw, 0, none⟩)), .nilIface]) ∧ WF base gw iv can (bs ++ [123]) ms0 1 gs bv w w') := by
  obtain ⟨c0, c1, c2, c3, c4, c5, c6, cf⟩ := wcell h.blk
  obtain ⟨t0, tf⟩ := h.top
  have hn1 := h.nle
  have kc := fun (W : World) (s : ByteArray) => run_conv_bytes W s
  have HW := Lib.hid h
  have HF := Lib.hid (Fr.refl gw gs bv w)
  have HWS := HW
  have HT := Lib.hid hT
  have HD : Hid (ms0.length ≤ 800) := Lib.hid (by omega)
  clear h hT hd
  have hf0 : (0 : Int) ≤ (ms0.length : Nat) := by omega
  have hf1 : ((ms0.length : Nat) : Int) < (n : Nat) := by omega
  clear hn1
  go_enter Tryz.func11, Tryz.ntmps11
  go_wp2
  go_quiet (fail)
  have hq := below_dn (Below.refl w.heap.size w) nq
  have hw1 := HW.out.bel hq
  have hf1 := HF.out.bel hq
  generalize w.drewN nq = wq at hw1 hf1 ⊢
  clear HW HF c0 c1 c2 c3 c4 c5 c6 cf t0 tf hq
  have HW := Lib.hid hw1
  have HF := Lib.hid hf1
  clear hw1 hf1
  obtain ⟨c0, c1, c2, c3, c4, c5, c6, cf⟩ := wcell HW.out.blk
  go_wp2_with (first | ((with_reducible refine wpList_at (some 23) ?_); refine wpList_wr_append HW.out HF.out ((Below.refl _ _).alloc (Nat.le_refl _) _) rfl _ _ rfl rfl ⟨_, 0, none⟩ 1 _ [123] rfl rfl (news_one _ 123) (by decide) (by first | omega | (simp only [List.length_append, data_length, List.length_cons, List.length_nil]; omega)) ?_; intro g1 ln1 cp1 w1 hg hw1 hf1; have hcc := wcell (hg.trans HW.out.blk); clear HW HF c0 c1 c2 c3 c4 c5 c6 cf hg; have HW := hw1; have HF := hf1; clear hw1 hf1; obtain ⟨c0, c1, c2, c3, c4, c5, c6, cf⟩ := hcc))
  go_ret2
  exact ⟨rfl, _, _, _, _, HW.out, HF.out⟩

set_option maxRecDepth 100000 in
set_option maxHeartbeats 4000000 in
theorem Wr.wArrayElement (h : Wr base gw iv can bs ms0 3 bv gs n cap w) (hB : 13 ≤ base) (hT : Tabs w) (hbl : bs.length ≤ 800000000) (hd : ms0.length ≤ 700) :
    Calls Tryz.prog 41 #[.pointer (some ⟨gw, 0, none⟩)] w (fun e w' => e = .returned (.tuple #[.iface 40 (.pointer (some ⟨gw, 0, none⟩)), .nilIface]) ∧ WF base gw iv can bs (ms0 ++ [3]) 4 gs bv w w') := by
  obtain ⟨c0, c1, c2, c3, c4, c5, c6, cf⟩ := wcell h.blk
  obtain ⟨t0, tf⟩ := h.top
  have hn1 := h.nle
  have kc := fun (W : World) (s : ByteArray) => run_conv_bytes W s
  have HW := Lib.hid h
  have HF := Lib.hid (Fr.refl gw gs bv w)
  have HWS := HW
  have HT := Lib.hid hT
  have HD : Hid (ms0.length ≤ 800) := Lib.hid (by omega)
  clear h hT hd
  have hf0 : (0 : Int) ≤ (ms0.length : Nat) := by omega
  have hf1 : ((ms0.length : Nat) : Int) < (n : Nat) := by omega
  clear hn1
  go_enter Tryz.func41, Tryz.ntmps41
  go_wp2
  go_quiet (fail)
  have hq := below_dn (Below.refl w.heap.size w) nq
  have hw1 := HW.out.bel hq
  have hf1 := HF.out.bel hq
  generalize w.drewN nq = wq at hw1 hf1 ⊢
  clear HW HF c0 c1 c2 c3 c4 c5 c6 cf t0 tf hq
  have HW := Lib.hid hw1
  have HF := Lib.hid hf1
  clear hw1 hf1
  obtain ⟨c0, c1, c2, c3, c4, c5, c6, cf⟩ := wcell HW.out.blk
  go_wp2_with (first | (go_at_call 23; refine (HW.out.fpush HF.out HD.out _).mono ?_; rintro e1 w1 ⟨rfl, bv1, gs1, n1, cap1, hw1, hf1⟩; clear HW HF c0 c1 c2 c3 c4 c5 c6 cf; have HW := Lib.hid hw1; have HF := Lib.hid hf1; clear hw1 hf1; obtain ⟨c0, c1, c2, c3, c4, c5, c6, cf⟩ := wcell HW.out.blk))
  go_ret2
  exact ⟨rfl, _, _, _, _, HW.out, HF.out⟩

set_option maxRecDepth 100000 in
set_option maxHeartbeats 4000000 in
theorem Wr.wCodeWithScope (h : Wr base gw iv can bs ms0 m bv gs n cap w) (hm : m = 4 ∨ m = 5) (hB : 13 ≤ base) (hT : Tabs w) (hbl : bs.length ≤ 800000000) (hd : ms0.length ≤ 700) (s : ByteArray) (l : List UInt8) (hl : l.length ≤ 5000) (hE : EscC s l) (TX : List UInt8) (hTX : TX = [] ++ (⟨#[123, 34, 36, 99, 111, 100, 101, 34, 58]⟩ : ByteArray).data.toList ++ l ++ (⟨#[44, 34, 36, 115, 99, 111, 112, 101, 34, 58, 123]⟩ : ByteArray).data.toList) (hTl : TX.length ≤ 20000) (hTp : 0 < TX.length) :
    Calls Tryz.prog 43 #[.pointer (some ⟨gw, 0, none⟩), .string s] w (fun e w' => e = .returned (.tuple #[.iface 40 (.pointer (some ⟨gw, 0, none⟩)), .nilIface]) ∧ WF base gw iv can (bs ++ TX) (ms0 ++ [m]) 6 gs bv w w') := by
  obtain ⟨c0, c1, c2, c3, c4, c5, c6, cf⟩ := wcell h.blk
  obtain ⟨t0, tf⟩ := h.top
  have hn1 := h.nle
  have kc := fun (W : World) (s : ByteArray) => run_conv_bytes W s
  have HW := Lib.hid h
  have HF := Lib.hid (Fr.refl gw gs bv w)
  have HWS := HW
  have HT := Lib.hid hT
  have HD : Hid (ms0.length ≤ 800) := Lib.hid (by omega)
  have HM := Lib.hid hm
  clear hm
  have HE := Lib.hid hE
  clear hE
  have HTX := Lib.hid hTX
  clear hTX
  clear h hT hd
  clear t0 tf hn1
  go_enter Tryz.func43, Tryz.ntmps43
  go_upto_region 5 with (first | (go_at_call 22; refine (HW.out.fensure HF.out HM.out _ _ _).mono ?_; rintro e1 w1 ⟨rfl, hw1, hf1⟩; clear HW HF c0 c1 c2 c3 c4 c5 c6 cf; have HW := Lib.hid hw1; have HF := Lib.hid hf1; clear hw1 hf1; obtain ⟨c0, c1, c2, c3, c4, c5, c6, cf⟩ := wcell HW.out.blk))
  have HBF := Lib.hid (BSt.fresh (Below.refl w1.heap.size w1))
  generalize hWb : w1.alloc (.cells #[.slice none 0 0, .int .i64 0, .int .i8 0] 39) = Wb at HBF ⊢
  have HW0 := HW
  have HF0 := HF
  have HB13 : Hid (13 ≤ w1.heap.size) := Lib.hid (Nat.le_trans hB HW0.out.lt.2.2.2)
  have hw1 := HW0.out.bel HBF.out.below
  have hf1 := HF0.out.bel HBF.out.below
  clear hWb
  clear HW HF c0 c1 c2 c3 c4 c5 c6 cf
  have HW := Lib.hid hw1
  have HF := Lib.hid hf1
  clear hw1 hf1
  obtain ⟨c0, c1, c2, c3, c4, c5, c6, cf⟩ := wcell HW.out.blk
  go_upto_region 8 with (first | (go_at_call 39; refine (HE.out _ _ _ _ _ (Tabs.wr HT.out HWS.out HF.out hB) HBF.out (by first | decide | omega | (simp only [List.length_append, data_length, List.length_cons, List.length_nil]; omega)) HB13.out).mono ?_; rintro e1 w2 ⟨rfl, hb2⟩; clear HBF; have HBF := Lib.hid hb2; clear hb2; have hw1 := HW0.out.bel HBF.out.below; have hf1 := HF0.out.bel HBF.out.below; clear HW HF c0 c1 c2 c3 c4 c5 c6 cf; have HW := Lib.hid hw1; have HF := Lib.hid hf1; clear hw1 hf1; obtain ⟨c0, c1, c2, c3, c4, c5, c6, cf⟩ := wcell HW.out.blk) | (go_at_call 50; refine (HBF.out.str (by first | decide | omega | (simp only [List.length_append, data_length, List.length_cons, List.length_nil]; omega)) _ (by first | decide | omega)).mono ?_; rintro e1 w2 ⟨rfl, hb2⟩; clear HBF; have HBF := Lib.hid hb2; clear hb2; have hw1 := HW0.out.bel HBF.out.below; have hf1 := HF0.out.bel HBF.out.below; clear HW HF c0 c1 c2 c3 c4 c5 c6 cf; have HW := Lib.hid hw1; have HF := Lib.hid hf1; clear hw1 hf1; obtain ⟨c0, c1, c2, c3, c4, c5, c6, cf⟩ := wcell HW.out.blk))
  have HBT : Hid (BSt _ _ TX _ _) := Lib.hid (by rw [HTX.out]; exact HBF.out)
  clear HBF
  have HBF := HBT
  clear HBT
  refine wp_region_noPanic ?_
  refine wp_region_held_drew (S := fun _ => True) (by kernel_rfl) (trivial) (fun hHeld => ?_)
  refine takeH (i := 0) (some 21) ?vw1 rfl rfl (by kernel_rfl) (by kernel_rfl) (by kernel_rfl) (fun _ _ _ h => h) (by rfl) ?yw2 (by assumption) ?rw3
  case yw2 => intro W hSw; go_simp; all_goals with_reducible rfl
  try simp only [Act.put, List.setIfInBounds_toArray, List.set_cons_zero, List.set_cons_succ]
  refine takeH (i := 1) (some 22) ?vw4 rfl rfl (by kernel_rfl) (by kernel_rfl) (by kernel_rfl) (fun _ _ _ h => h) (by rfl) ?yw5 (by assumption) ?rw6
  case yw5 => intro W hSw; go_simp; all_goals with_reducible rfl
  try simp only [Act.put, List.setIfInBounds_toArray, List.set_cons_zero, List.set_cons_succ]
  refine takeH (i := 2) (some 23) ?vw7 rfl rfl (by kernel_rfl) (by kernel_rfl) (by kernel_rfl) (fun _ _ _ h => h) (by rfl) ?yw8 (by assumption) ?rw9
  case yw8 => intro W hSw; go_simp; all_goals with_reducible rfl
  try simp only [Act.put, List.setIfInBounds_toArray, List.set_cons_zero, List.set_cons_succ]
  refine takeH (i := 3) (some 24) ?vw10 rfl rfl (by kernel_rfl) (by kernel_rfl) (by kernel_rfl) (fun _ _ _ h => h) (by rfl) ?yw11 (by assumption) ?rw12
  case yw11 => intro W hSw; go_simp; all_goals with_reducible rfl
  try simp only [Act.put, List.setIfInBounds_toArray, List.set_cons_zero, List.set_cons_succ]
  refine wpAnyH_ready (rs := [4, 5]) (by kernel_rfl) (by simp) ?_
  refine (AllReadyH.cons rfl (fun K hK => ?_) (AllReadyH.cons rfl (fun K hK => ?_) AllReadyH.nil))
  · go_simp
    refine hK.out _ _ (trivial) (fun hHeld => ?_)
    clear hK K
    try simp only [Act.put, List.setIfInBounds_toArray, List.set_cons_zero, List.set_cons_succ]
    refine wpAnyH_ready (rs := [5]) (by kernel_rfl) (by simp) ?_
    refine (AllReadyH.cons rfl (fun K hK => ?_) AllReadyH.nil)
    go_simp
    refine ((HBF.out.dr).bytes (by first | decide | omega | (simp only [List.length_append, data_length, List.length_cons, List.length_nil]; omega))).mono ?_
    rintro e2 w2 ⟨gv, cv, rfl, hnews, hb2⟩
    have HBF2 := Lib.hid hb2
    have HNW := Lib.hid hnews
    clear hb2 hnews
    obtain ⟨f0, f1, f2, f3, f4, f5, f6, ff⟩ := wcell (HW0.out.bel HBF2.out.below).blk
    refine hK.out _ _ (trivial) (fun hHeld => ?_)
    clear hK K
    try simp only [Act.put, List.setIfInBounds_toArray, List.set_cons_zero, List.set_cons_succ]
    refine wpAnyH_ready (rs := [6]) (by kernel_rfl) (by simp) ?_
    refine (AllReadyH.cons rfl (fun K hK => ?_) AllReadyH.nil)
    rw [if_pos (by rfl)]
    refine wp_wr_append HW0.out HF0.out HBF2.out.below _ _ rfl rfl ⟨gv, 0, none⟩ _ _ (TX) rfl rfl HNW.out (by first | decide | omega | (simp only [List.length_append, data_length, List.length_cons, List.length_nil]; omega)) (by first | decide | omega | (simp only [List.length_append, data_length, List.length_cons, List.length_nil]; omega)) ?_
    intro g1 ln1 cp1 w3 hg hw1 hf1
    have HW1 := hw1
    have HF1 := hf1
    obtain ⟨d0, d1, d2, d3, d4, d5, d6, df⟩ := wcell (hg.trans HW0.out.blk)
    clear hw1 hf1 hg
    refine hK.out _ _ (trivial) (fun hHeld => ?_)
    clear hK K
    try simp only [Act.put, List.setIfInBounds_toArray, List.set_cons_zero, List.set_cons_succ]
    refine takeH (i := 7) (some 28) ?vw13 rfl rfl (by kernel_rfl) (by kernel_rfl) (by kernel_rfl) (fun _ _ _ h => h) (by rfl) ?yw14 (by assumption) ?rw15
    case yw14 => intro W hSw; go_simp; all_goals with_reducible rfl
    try simp only [Act.put, List.setIfInBounds_toArray, List.set_cons_zero, List.set_cons_succ]
    refine takeH (i := 8) (some 29) ?vw16 rfl rfl (by kernel_rfl) (by kernel_rfl) (by kernel_rfl) (fun _ _ _ h => h) (by rfl) ?yw17 (by assumption) ?rw18
    case yw17 => intro W hSw; go_simp; all_goals with_reducible rfl
    try simp only [Act.put, List.setIfInBounds_toArray, List.set_cons_zero, List.set_cons_succ]
    refine wpAnyH_ready (rs := [9]) (by kernel_rfl) (by simp) ?_
    refine (AllReadyH.cons rfl (fun K hK => ?_) AllReadyH.nil)
    go_simp
    refine hK.out _ _ (trivial) (fun hHeld => ?_)
    clear hK K
    try simp only [Act.put, List.setIfInBounds_toArray, List.set_cons_zero, List.set_cons_succ]
    refine wpAnyH_done (by kernel_rfl) ?_ _
    refine NoPanic.normal ?_
    generalize w3.setCell ⟨gw, 1, none⟩ (.slice (some ⟨g1, 0, none⟩) ln1 cp1) = W2 at HW1 HF1 ⊢
    clear HW HF c0 c1 c2 c3 c4 c5 c6 cf d0 d1 d2 d3 d4 d5 d6 df f0 f1 f2 f3 f4 f5 f6 ff
    have HW := HW1
    have HF := HF1
    clear HW1 HF1
    obtain ⟨c0, c1, c2, c3, c4, c5, c6, cf⟩ := wcell HW.out.blk
    go_wp2_with (first | (go_at_call 23; refine (HW.out.fpush HF.out HD.out _).mono ?_; rintro e1 w1 ⟨rfl, bv1, gs1, n1, cap1, hw1, hf1⟩; clear HW HF c0 c1 c2 c3 c4 c5 c6 cf; have HW := Lib.hid hw1; have HF := Lib.hid hf1; clear hw1 hf1; obtain ⟨c0, c1, c2, c3, c4, c5, c6, cf⟩ := wcell HW.out.blk))
    go_ret2
    exact ⟨rfl, _, _, _, _, HW.out, HF.out⟩
  · go_simp
    refine ((HBF.out.dr).bytes (by first | decide | omega | (simp only [List.length_append, data_length, List.length_cons, List.length_nil]; omega))).mono ?_
    rintro e2 w2 ⟨gv, cv, rfl, hnews, hb2⟩
    have HBF2 := Lib.hid hb2
    have HNW := Lib.hid hnews
    clear hb2 hnews
    obtain ⟨f0, f1, f2, f3, f4, f5, f6, ff⟩ := wcell (HW0.out.bel HBF2.out.below).blk
    refine hK.out _ _ (trivial) (fun hHeld => ?_)
    clear hK K
    try simp only [Act.put, List.setIfInBounds_toArray, List.set_cons_zero, List.set_cons_succ]
    refine wpAnyH_ready (rs := [4]) (by kernel_rfl) (by simp) ?_
    refine (AllReadyH.cons rfl (fun K hK => ?_) AllReadyH.nil)
    go_simp
    refine hK.out _ _ (trivial) (fun hHeld => ?_)
    clear hK K
    try simp only [Act.put, List.setIfInBounds_toArray, List.set_cons_zero, List.set_cons_succ]
    refine wpAnyH_ready (rs := [6]) (by kernel_rfl) (by simp) ?_
    refine (AllReadyH.cons rfl (fun K hK => ?_) AllReadyH.nil)
    rw [if_pos (by rfl)]
    refine wp_wr_append HW0.out HF0.out HBF2.out.below _ _ rfl rfl ⟨gv, 0, none⟩ _ _ (TX) rfl rfl HNW.out (by first | decide | omega | (simp only [List.length_append, data_length, List.length_cons, List.length_nil]; omega)) (by first | decide | omega | (simp only [List.length_append, data_length, List.length_cons, List.length_nil]; omega)) ?_
    intro g1 ln1 cp1 w3 hg hw1 hf1
    have HW1 := hw1
    have HF1 := hf1
    obtain ⟨d0, d1, d2, d3, d4, d5, d6, df⟩ := wcell (hg.trans HW0.out.blk)
    clear hw1 hf1 hg
    refine hK.out _ _ (trivial) (fun hHeld => ?_)
    clear hK K
    try simp only [Act.put, List.setIfInBounds_toArray, List.set_cons_zero, List.set_cons_succ]
    refine takeH (i := 7) (some 28) ?vw19 rfl rfl (by kernel_rfl) (by kernel_rfl) (by kernel_rfl) (fun _ _ _ h => h) (by rfl) ?yw20 (by assumption) ?rw21
    case yw20 => intro W hSw; go_simp; all_goals with_reducible rfl
    try simp only [Act.put, List.setIfInBounds_toArray, List.set_cons_zero, List.set_cons_succ]
    refine takeH (i := 8) (some 29) ?vw22 rfl rfl (by kernel_rfl) (by kernel_rfl) (by kernel_rfl) (fun _ _ _ h => h) (by rfl) ?yw23 (by assumption) ?rw24
    case yw23 => intro W hSw; go_simp; all_goals with_reducible rfl
    try simp only [Act.put, List.setIfInBounds_toArray, List.set_cons_zero, List.set_cons_succ]
    refine wpAnyH_ready (rs := [9]) (by kernel_rfl) (by simp) ?_
    refine (AllReadyH.cons rfl (fun K hK => ?_) AllReadyH.nil)
    go_simp
    refine hK.out _ _ (trivial) (fun hHeld => ?_)
    clear hK K
    try simp only [Act.put, List.setIfInBounds_toArray, List.set_cons_zero, List.set_cons_succ]
    refine wpAnyH_done (by kernel_rfl) ?_ _
    refine NoPanic.normal ?_
    generalize w3.setCell ⟨gw, 1, none⟩ (.slice (some ⟨g1, 0, none⟩) ln1 cp1) = W2 at HW1 HF1 ⊢
    clear HW HF c0 c1 c2 c3 c4 c5 c6 cf d0 d1 d2 d3 d4 d5 d6 df f0 f1 f2 f3 f4 f5 f6 ff
    have HW := HW1
    have HF := HF1
    clear HW1 HF1
    obtain ⟨c0, c1, c2, c3, c4, c5, c6, cf⟩ := wcell HW.out.blk
    go_wp2_with (first | (go_at_call 23; refine (HW.out.fpush HF.out HD.out _).mono ?_; rintro e1 w1 ⟨rfl, bv1, gs1, n1, cap1, hw1, hf1⟩; clear HW HF c0 c1 c2 c3 c4 c5 c6 cf; have HW := Lib.hid hw1; have HF := Lib.hid hf1; clear hw1 hf1; obtain ⟨c0, c1, c2, c3, c4, c5, c6, cf⟩ := wcell HW.out.blk))
    go_ret2
    exact ⟨rfl, _, _, _, _, HW.out, HF.out⟩
end

end Go.Proofs.YtpkfdbhpmhahaaaGreatDoor
