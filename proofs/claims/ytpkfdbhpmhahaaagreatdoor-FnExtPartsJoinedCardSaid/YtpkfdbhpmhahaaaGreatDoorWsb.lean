/- Scalars of the writer: those with a buffer. -/
import Derived.Test.YtpkfdbhpmhahaaaGreatDoorWsa
import Derived.Test.YtpkfdbhpmhahaaaGreatDoorGb
namespace Go.Proofs.YtpkfdbhpmhahaaaGreatDoor
open Go Go.RowKit
set_option linter.unusedSimpArgs false
set_option linter.unusedVariables false

section
variable {base gw : Nat} {iv : Value} {can : Bool} {bs : List UInt8} {ms1 : List Int} {m1 m : Int} {bv : Value} {gs n cap : Nat} {w : World}

set_option maxRecDepth 100000 in
set_option maxHeartbeats 1000000 in
theorem Wr.wJavascript (h : Wr base gw iv can bs (ms1 ++ [m1]) m bv gs n cap w) (hm : m = 4 ∨ m = 5) (hB : 13 ≤ base) (hT : Tabs w) (hbl : bs.length ≤ 800000000) (s : ByteArray) (l : List UInt8) (hl : l.length ≤ 5000) (hE : EscC s l) :
    Calls Tryz.prog 64 #[.pointer (some ⟨gw, 0, none⟩), .string s] w (fun e w' => e = .returned .nilIface ∧ WF base gw iv can (bs ++ (esv ⟨#[99, 111, 100, 101]⟩ ⟨l.toArray⟩ false).data.toList ++ [44]) ms1 m1 gs bv w w') := by
  obtain ⟨c0, c1, c2, c3, c4, c5, c6, cf⟩ := wcell h.blk
  have kc := fun (W : World) (s : ByteArray) => run_conv_bytes W s
  have HE := Lib.hid hE
  clear hE
  have hes : (esv ⟨#[99, 111, 100, 101]⟩ ⟨l.toArray⟩ false).size ≤ 6000 := by have := (esv_size ⟨#[99, 111, 100, 101]⟩ ⟨l.toArray⟩ false).2; have e3 : (⟨#[99, 111, 100, 101]⟩ : ByteArray).size = 4 := rfl; have e4 : (⟨l.toArray⟩ : ByteArray).size = l.length := (by simp [ByteArray.size]); omega
  have HW := Lib.hid h
  have HF := Lib.hid (Fr.refl gw gs bv w)
  have HWS := HW
  have HT := Lib.hid hT
  have HM := Lib.hid hm
  clear h hT hm
  go_enter Tryz.func64, Tryz.ntmps64
  go_upto_region 5 with (first | (go_at_call 22; refine (HW.out.fensure HF.out HM.out _ _ _).mono ?_; rintro e1 w1 ⟨rfl, hw1, hf1⟩; clear HW HF c0 c1 c2 c3 c4 c5 c6 cf; have HW := Lib.hid hw1; have HF := Lib.hid hf1; clear hw1 hf1; obtain ⟨c0, c1, c2, c3, c4, c5, c6, cf⟩ := wcell HW.out.blk))
  have HBF := Lib.hid (BSt.fresh (Below.refl w1.heap.size w1))
  generalize hWb : w1.alloc (.cells #[.slice none 0 0, .int .i64 0, .int .i8 0] 39) = Wb at HBF ⊢
  have HW0 := HW
  have HF0 := HF
  have HB13 : Hid (13 ≤ w1.heap.size) := Lib.hid (Nat.le_trans hB HW0.out.lt.2.2.2)
  have hw1 := HW0.out.bel HBF.out.below
  have hf1 := HF0.out.bel HBF.out.below
  clear hWb
  clear HW HF c0 c1 c2 c3 c4 c5 c6 cf
  have HW := Lib.hid hw1
  have HF := Lib.hid hf1
  clear hw1 hf1
  obtain ⟨c0, c1, c2, c3, c4, c5, c6, cf⟩ := wcell HW.out.blk
  go_wp2_with (first | (go_at_call 39; refine (HE.out _ _ _ _ _ (Tabs.wr HT.out HWS.out HF.out hB) HBF.out (by first | decide | omega | (simp only [List.length_append, data_length, List.length_cons, List.length_nil]; omega)) HB13.out).mono ?_; rintro e1 w2 ⟨rfl, hb2⟩; clear HBF; have HBF := Lib.hid hb2; clear hb2; have hw1 := HW0.out.bel HBF.out.below; have hf1 := HF0.out.bel HBF.out.below; clear HW HF c0 c1 c2 c3 c4 c5 c6 cf; have HW := Lib.hid hw1; have HF := Lib.hid hf1; clear hw1 hf1; obtain ⟨c0, c1, c2, c3, c4, c5, c6, cf⟩ := wcell HW.out.blk) | (go_at_call 13; refine (HBF.out.string).mono ?_; rintro e1 w2 ⟨rfl, hb2⟩; clear HBF; have HBF := Lib.hid hb2; clear hb2; have hw1 := HW0.out.bel HBF.out.below; have hf1 := HF0.out.bel HBF.out.below; clear HW HF c0 c1 c2 c3 c4 c5 c6 cf; have HW := Lib.hid hw1; have HF := Lib.hid hf1; clear hw1 hf1; obtain ⟨c0, c1, c2, c3, c4, c5, c6, cf⟩ := wcell HW.out.blk) | (go_at_call 78; refine (HW.out.fesv HF.out _ _ _ (by first | decide | omega) (by first | decide | omega | (simp only [ByteArray.size, List.size_toArray, List.length_append, data_length, List.length_cons, List.length_nil]; omega)) (by first | omega | (simp only [List.length_append, data_length, List.length_cons, List.length_nil]; omega))).mono ?_; rintro e1 w1 ⟨rfl, bv1, gs1, n1, cap1, hw1, hf1⟩; clear HW HF c0 c1 c2 c3 c4 c5 c6 cf; have HW := Lib.hid hw1; have HF := Lib.hid hf1; clear hw1 hf1; obtain ⟨c0, c1, c2, c3, c4, c5, c6, cf⟩ := wcell HW.out.blk) | ((with_reducible refine wpList_at (some 27) ?_); refine wpList_wr_append HW.out HF.out ((Below.refl _ _).alloc (Nat.le_refl _) _) rfl _ _ rfl rfl ⟨_, 0, none⟩ 1 _ [44] rfl rfl (news_one _ 44) (by decide) (by first | omega | (simp only [List.length_append, data_length, List.length_cons, List.length_nil]; omega)) ?_; intro g1 ln1 cp1 w1 hg hw1 hf1; have hcc := wcell (hg.trans HW.out.blk); clear HW HF c0 c1 c2 c3 c4 c5 c6 cf hg; have HW := hw1; have HF := hf1; clear hw1 hf1; obtain ⟨c0, c1, c2, c3, c4, c5, c6, cf⟩ := hcc) | (go_at_call 46; refine (HW.out.fpop1 HF.out HM.out).mono ?_; rintro e1 w1 ⟨rfl, bv1, gs1, n1, cap1, hw1, hf1⟩; clear HW HF c0 c1 c2 c3 c4 c5 c6 cf; have HW := Lib.hid hw1; have HF := Lib.hid hf1; clear hw1 hf1; obtain ⟨c0, c1, c2, c3, c4, c5, c6, cf⟩ := wcell HW.out.blk))
  go_ret
  exact ⟨rfl, _, _, _, _, HW.out, HF.out⟩

set_option maxRecDepth 100000 in
set_option maxHeartbeats 1000000 in
theorem Wr.wSymbol (h : Wr base gw iv can bs (ms1 ++ [m1]) m bv gs n cap w) (hm : m = 4 ∨ m = 5) (hB : 13 ≤ base) (hT : Tabs w) (hbl : bs.length ≤ 800000000) (s : ByteArray) (l : List UInt8) (hl : l.length ≤ 5000) (hE : EscC s l) :
    Calls Tryz.prog 65 #[.pointer (some ⟨gw, 0, none⟩), .string s] w (fun e w' => e = .returned .nilIface ∧ WF base gw iv can (bs ++ (esv ⟨#[115, 121, 109, 98, 111, 108]⟩ ⟨l.toArray⟩ false).data.toList ++ [44]) ms1 m1 gs bv w w') := by
  obtain ⟨c0, c1, c2, c3, c4, c5, c6, cf⟩ := wcell h.blk
  have kc := fun (W : World) (s : ByteArray) => run_conv_bytes W s
  have HE := Lib.hid hE
  clear hE
  have hes : (esv ⟨#[115, 121, 109, 98, 111, 108]⟩ ⟨l.toArray⟩ false).size ≤ 6000 := by have := (esv_size ⟨#[115, 121, 109, 98, 111, 108]⟩ ⟨l.toArray⟩ false).2; have e3 : (⟨#[115, 121, 109, 98, 111, 108]⟩ : ByteArray).size = 6 := rfl; have e4 : (⟨l.toArray⟩ : ByteArray).size = l.length := (by simp [ByteArray.size]); omega
  have HW := Lib.hid h
  have HF := Lib.hid (Fr.refl gw gs bv w)
  have HWS := HW
  have HT := Lib.hid hT
  have HM := Lib.hid hm
  clear h hT hm
  go_enter Tryz.func65, Tryz.ntmps65
  go_upto_region 5 with (first | (go_at_call 22; refine (HW.out.fensure HF.out HM.out _ _ _).mono ?_; rintro e1 w1 ⟨rfl, hw1, hf1⟩; clear HW HF c0 c1 c2 c3 c4 c5 c6 cf; have HW := Lib.hid hw1; have HF := Lib.hid hf1; clear hw1 hf1; obtain ⟨c0, c1, c2, c3, c4, c5, c6, cf⟩ := wcell HW.out.blk))
  have HBF := Lib.hid (BSt.fresh (Below.refl w1.heap.size w1))
  generalize hWb : w1.alloc (.cells #[.slice none 0 0, .int .i64 0, .int .i8 0] 39) = Wb at HBF ⊢
  have HW0 := HW
  have HF0 := HF
  have HB13 : Hid (13 ≤ w1.heap.size) := Lib.hid (Nat.le_trans hB HW0.out.lt.2.2.2)
  have hw1 := HW0.out.bel HBF.out.below
  have hf1 := HF0.out.bel HBF.out.below
  clear hWb
  clear HW HF c0 c1 c2 c3 c4 c5 c6 cf
  have HW := Lib.hid hw1
  have HF := Lib.hid hf1
  clear hw1 hf1
  obtain ⟨c0, c1, c2, c3, c4, c5, c6, cf⟩ := wcell HW.out.blk
  go_wp2_with (first | (go_at_call 39; refine (HE.out _ _ _ _ _ (Tabs.wr HT.out HWS.out HF.out hB) HBF.out (by first | decide | omega | (simp only [List.length_append, data_length, List.length_cons, List.length_nil]; omega)) HB13.out).mono ?_; rintro e1 w2 ⟨rfl, hb2⟩; clear HBF; have HBF := Lib.hid hb2; clear hb2; have hw1 := HW0.out.bel HBF.out.below; have hf1 := HF0.out.bel HBF.out.below; clear HW HF c0 c1 c2 c3 c4 c5 c6 cf; have HW := Lib.hid hw1; have HF := Lib.hid hf1; clear hw1 hf1; obtain ⟨c0, c1, c2, c3, c4, c5, c6, cf⟩ := wcell HW.out.blk) | (go_at_call 13; refine (HBF.out.string).mono ?_; rintro e1 w2 ⟨rfl, hb2⟩; clear HBF; have HBF := Lib.hid hb2; clear hb2; have hw1 := HW0.out.bel HBF.out.below; have hf1 := HF0.out.bel HBF.out.below; clear HW HF c0 c1 c2 c3 c4 c5 c6 cf; have HW := Lib.hid hw1; have HF := Lib.hid hf1; clear hw1 hf1; obtain ⟨c0, c1, c2, c3, c4, c5, c6, cf⟩ := wcell HW.out.blk) | (go_at_call 78; refine (HW.out.fesv HF.out _ _ _ (by first | decide | omega) (by first | decide | omega | (simp only [ByteArray.size, List.size_toArray, List.length_append, data_length, List.length_cons, List.length_nil]; omega)) (by first | omega | (simp only [List.length_append, data_length, List.length_cons, List.length_nil]; omega))).mono ?_; rintro e1 w1 ⟨rfl, bv1, gs1, n1, cap1, hw1, hf1⟩; clear HW HF c0 c1 c2 c3 c4 c5 c6 cf; have HW := Lib.hid hw1; have HF := Lib.hid hf1; clear hw1 hf1; obtain ⟨c0, c1, c2, c3, c4, c5, c6, cf⟩ := wcell HW.out.blk) | ((with_reducible refine wpList_at (some 27) ?_); refine wpList_wr_append HW.out HF.out ((Below.refl _ _).alloc (Nat.le_refl _) _) rfl _ _ rfl rfl ⟨_, 0, none⟩ 1 _ [44] rfl rfl (news_one _ 44) (by decide) (by first | omega | (simp only [List.length_append, data_length, List.length_cons, List.length_nil]; omega)) ?_; intro g1 ln1 cp1 w1 hg hw1 hf1; have hcc := wcell (hg.trans HW.out.blk); clear HW HF c0 c1 c2 c3 c4 c5 c6 cf hg; have HW := hw1; have HF := hf1; clear hw1 hf1; obtain ⟨c0, c1, c2, c3, c4, c5, c6, cf⟩ := hcc) | (go_at_call 46; refine (HW.out.fpop1 HF.out HM.out).mono ?_; rintro e1 w1 ⟨rfl, bv1, gs1, n1, cap1, hw1, hf1⟩; clear HW HF c0 c1 c2 c3 c4 c5 c6 cf; have HW := Lib.hid hw1; have HF := Lib.hid hf1; clear hw1 hf1; obtain ⟨c0, c1, c2, c3, c4, c5, c6, cf⟩ := wcell HW.out.blk))
  go_ret
  exact ⟨rfl, _, _, _, _, HW.out, HF.out⟩

set_option maxRecDepth 100000 in
set_option maxHeartbeats 1000000 in
theorem Wr.wString (h : Wr base gw iv can bs (ms1 ++ [m1]) m bv gs n cap w) (hm : m = 4 ∨ m = 5) (hB : 13 ≤ base) (hT : Tabs w) (hbl : bs.length ≤ 800000000) (s : ByteArray) (l : List UInt8) (hl : l.length ≤ 5000) (hE : EscC s l) (hp : 0 < l.length) :
    Calls Tryz.prog 54 #[.pointer (some ⟨gw, 0, none⟩), .string s] w (fun e w' => e = .returned .nilIface ∧ WF base gw iv can (bs ++ l ++ [44]) ms1 m1 gs bv w w') := by
  obtain ⟨c0, c1, c2, c3, c4, c5, c6, cf⟩ := wcell h.blk
  have kc := fun (W : World) (s : ByteArray) => run_conv_bytes W s
  have HE := Lib.hid hE
  clear hE
  have HW := Lib.hid h
  have HF := Lib.hid (Fr.refl gw gs bv w)
  have HWS := HW
  have HT := Lib.hid hT
  have HM := Lib.hid hm
  clear h hT hm
  go_enter Tryz.func54, Tryz.ntmps54
  go_upto_region 5 with (first | (go_at_call 22; refine (HW.out.fensure HF.out HM.out _ _ _).mono ?_; rintro e1 w1 ⟨rfl, hw1, hf1⟩; clear HW HF c0 c1 c2 c3 c4 c5 c6 cf; have HW := Lib.hid hw1; have HF := Lib.hid hf1; clear hw1 hf1; obtain ⟨c0, c1, c2, c3, c4, c5, c6, cf⟩ := wcell HW.out.blk))
  have HBF := Lib.hid (BSt.fresh (Below.refl w1.heap.size w1))
  generalize hWb : w1.alloc (.cells #[.slice none 0 0, .int .i64 0, .int .i8 0] 39) = Wb at HBF ⊢
  have HW0 := HW
  have HF0 := HF
  have HB13 : Hid (13 ≤ w1.heap.size) := Lib.hid (Nat.le_trans hB HW0.out.lt.2.2.2)
  have hw1 := HW0.out.bel HBF.out.below
  have hf1 := HF0.out.bel HBF.out.below
  clear hWb
  clear HW HF c0 c1 c2 c3 c4 c5 c6 cf
  have HW := Lib.hid hw1
  have HF := Lib.hid hf1
  clear hw1 hf1
  obtain ⟨c0, c1, c2, c3, c4, c5, c6, cf⟩ := wcell HW.out.blk
  go_upto_region 6 with (first | (go_at_call 39; refine (HE.out _ _ _ _ _ (Tabs.wr HT.out HWS.out HF.out hB) HBF.out (by first | decide | omega | (simp only [List.length_append, data_length, List.length_cons, List.length_nil]; omega)) HB13.out).mono ?_; rintro e1 w2 ⟨rfl, hb2⟩; clear HBF; have HBF := Lib.hid hb2; clear hb2; have hw1 := HW0.out.bel HBF.out.below; have hf1 := HF0.out.bel HBF.out.below; clear HW HF c0 c1 c2 c3 c4 c5 c6 cf; have HW := Lib.hid hw1; have HF := Lib.hid hf1; clear hw1 hf1; obtain ⟨c0, c1, c2, c3, c4, c5, c6, cf⟩ := wcell HW.out.blk))
  refine wp_region_noPanic ?_
  refine wp_region_held_drew (S := fun _ => True) (by kernel_rfl) (trivial) (fun hHeld => ?_)
  refine takeH (i := 0) (some 18) ?vs1 rfl rfl (by kernel_rfl) (by kernel_rfl) (by kernel_rfl) (fun _ _ _ h => h) (by rfl) ?ys2 (by assumption) ?rs3
  case ys2 => intro W hSw; go_simp; all_goals with_reducible rfl
  try simp only [Act.put, List.setIfInBounds_toArray, List.set_cons_zero, List.set_cons_succ]
  refine takeH (i := 1) (some 19) ?vs4 rfl rfl (by kernel_rfl) (by kernel_rfl) (by kernel_rfl) (fun _ _ _ h => h) (by rfl) ?ys5 (by assumption) ?rs6
  case ys5 => intro W hSw; go_simp; all_goals with_reducible rfl
  try simp only [Act.put, List.setIfInBounds_toArray, List.set_cons_zero, List.set_cons_succ]
  refine takeH (i := 2) (some 20) ?vs7 rfl rfl (by kernel_rfl) (by kernel_rfl) (by kernel_rfl) (fun _ _ _ h => h) (by rfl) ?ys8 (by assumption) ?rs9
  case ys8 => intro W hSw; go_simp; all_goals with_reducible rfl
  try simp only [Act.put, List.setIfInBounds_toArray, List.set_cons_zero, List.set_cons_succ]
  refine takeH (i := 3) (some 21) ?vs10 rfl rfl (by kernel_rfl) (by kernel_rfl) (by kernel_rfl) (fun _ _ _ h => h) (by rfl) ?ys11 (by assumption) ?rs12
  case ys11 => intro W hSw; go_simp; all_goals with_reducible rfl
  try simp only [Act.put, List.setIfInBounds_toArray, List.set_cons_zero, List.set_cons_succ]
  refine wpAnyH_ready (rs := [4, 5]) (by kernel_rfl) (by simp) ?_
  refine (AllReadyH.cons rfl (fun K hK => ?_) (AllReadyH.cons rfl (fun K hK => ?_) AllReadyH.nil))
  · go_simp
    refine hK.out _ _ (trivial) (fun hHeld => ?_)
    clear hK K
    try simp only [Act.put, List.setIfInBounds_toArray, List.set_cons_zero, List.set_cons_succ]
    refine wpAnyH_ready (rs := [5]) (by kernel_rfl) (by simp) ?_
    refine (AllReadyH.cons rfl (fun K hK => ?_) AllReadyH.nil)
    go_simp
    refine ((HBF.out.dr).bytes (by first | decide | omega | (simp only [List.length_append, data_length, List.length_cons, List.length_nil]; omega))).mono ?_
    rintro e2 w2 ⟨gv, cv, rfl, hnews, hb2⟩
    have HBF2 := Lib.hid hb2
    have HNW := Lib.hid hnews
    clear hb2 hnews
    obtain ⟨f0, f1, f2, f3, f4, f5, f6, ff⟩ := wcell (HW0.out.bel HBF2.out.below).blk
    refine hK.out _ _ (trivial) (fun hHeld => ?_)
    clear hK K
    try simp only [Act.put, List.setIfInBounds_toArray, List.set_cons_zero, List.set_cons_succ]
    refine wpAnyH_ready (rs := [6]) (by kernel_rfl) (by simp) ?_
    refine (AllReadyH.cons rfl (fun K hK => ?_) AllReadyH.nil)
    rw [if_pos (by rfl)]
    refine wp_wr_append HW0.out HF0.out HBF2.out.below _ _ rfl rfl ⟨gv, 0, none⟩ _ _ ([] ++ l) rfl rfl HNW.out (by first | decide | omega | (simp only [List.length_append, data_length, List.length_cons, List.length_nil]; omega)) (by first | decide | omega | (simp only [List.length_append, data_length, List.length_cons, List.length_nil]; omega)) ?_
    intro g1 ln1 cp1 w3 hg hw1 hf1
    have HW1 := hw1
    have HF1 := hf1
    obtain ⟨d0, d1, d2, d3, d4, d5, d6, df⟩ := wcell (hg.trans HW0.out.blk)
    clear hw1 hf1 hg
    refine hK.out _ _ (trivial) (fun hHeld => ?_)
    clear hK K
    try simp only [Act.put, List.setIfInBounds_toArray, List.set_cons_zero, List.set_cons_succ]
    refine takeH (i := 7) (some 25) ?vs13 rfl rfl (by kernel_rfl) (by kernel_rfl) (by kernel_rfl) (fun _ _ _ h => h) (by rfl) ?ys14 (by assumption) ?rs15
    case ys14 => intro W hSw; go_simp; all_goals with_reducible rfl
    try simp only [Act.put, List.setIfInBounds_toArray, List.set_cons_zero, List.set_cons_succ]
    refine takeH (i := 8) (some 26) ?vs16 rfl rfl (by kernel_rfl) (by kernel_rfl) (by kernel_rfl) (fun _ _ _ h => h) (by rfl) ?ys17 (by assumption) ?rs18
    case ys17 => intro W hSw; go_simp; all_goals with_reducible rfl
    try simp only [Act.put, List.setIfInBounds_toArray, List.set_cons_zero, List.set_cons_succ]
    refine wpAnyH_ready (rs := [9]) (by kernel_rfl) (by simp) ?_
    refine (AllReadyH.cons rfl (fun K hK => ?_) AllReadyH.nil)
    go_simp
    refine hK.out _ _ (trivial) (fun hHeld => ?_)
    clear hK K
    try simp only [Act.put, List.setIfInBounds_toArray, List.set_cons_zero, List.set_cons_succ]
    refine wpAnyH_done (by kernel_rfl) ?_ _
    refine NoPanic.normal ?_
    generalize w3.setCell ⟨gw, 1, none⟩ (.slice (some ⟨g1, 0, none⟩) ln1 cp1) = W2 at HW1 HF1 ⊢
    clear HW HF c0 c1 c2 c3 c4 c5 c6 cf d0 d1 d2 d3 d4 d5 d6 df f0 f1 f2 f3 f4 f5 f6 ff
    have HW := HW1
    have HF := HF1
    clear HW1 HF1
    obtain ⟨c0, c1, c2, c3, c4, c5, c6, cf⟩ := wcell HW.out.blk
    go_wp2_with (first | ((with_reducible refine wpList_at (some 33) ?_); refine wpList_wr_append HW.out HF.out ((Below.refl _ _).alloc (Nat.le_refl _) _) rfl _ _ rfl rfl ⟨_, 0, none⟩ 1 _ [44] rfl rfl (news_one _ 44) (by decide) (by first | omega | (simp only [List.length_append, data_length, List.length_cons, List.length_nil]; omega)) ?_; intro g1 ln1 cp1 w1 hg hw1 hf1; have hcc := wcell (hg.trans HW.out.blk); clear HW HF c0 c1 c2 c3 c4 c5 c6 cf hg; have HW := hw1; have HF := hf1; clear hw1 hf1; obtain ⟨c0, c1, c2, c3, c4, c5, c6, cf⟩ := hcc) | (go_at_call 46; refine (HW.out.fpop1 HF.out HM.out).mono ?_; rintro e1 w1 ⟨rfl, bv1, gs1, n1, cap1, hw1, hf1⟩; clear HW HF c0 c1 c2 c3 c4 c5 c6 cf; have HW := Lib.hid hw1; have HF := Lib.hid hf1; clear hw1 hf1; obtain ⟨c0, c1, c2, c3, c4, c5, c6, cf⟩ := wcell HW.out.blk))
    go_ret
    exact ⟨rfl, _, _, _, _, HW.out, HF.out⟩
  · go_simp
    refine ((HBF.out.dr).bytes (by first | decide | omega | (simp only [List.length_append, data_length, List.length_cons, List.length_nil]; omega))).mono ?_
    rintro e2 w2 ⟨gv, cv, rfl, hnews, hb2⟩
    have HBF2 := Lib.hid hb2
    have HNW := Lib.hid hnews
    clear hb2 hnews
    obtain ⟨f0, f1, f2, f3, f4, f5, f6, ff⟩ := wcell (HW0.out.bel HBF2.out.below).blk
    refine hK.out _ _ (trivial) (fun hHeld => ?_)
    clear hK K
    try simp only [Act.put, List.setIfInBounds_toArray, List.set_cons_zero, List.set_cons_succ]
    refine wpAnyH_ready (rs := [4]) (by kernel_rfl) (by simp) ?_
    refine (AllReadyH.cons rfl (fun K hK => ?_) AllReadyH.nil)
    go_simp
    refine hK.out _ _ (trivial) (fun hHeld => ?_)
    clear hK K
    try simp only [Act.put, List.setIfInBounds_toArray, List.set_cons_zero, List.set_cons_succ]
    refine wpAnyH_ready (rs := [6]) (by kernel_rfl) (by simp) ?_
    refine (AllReadyH.cons rfl (fun K hK => ?_) AllReadyH.nil)
    rw [if_pos (by rfl)]
    refine wp_wr_append HW0.out HF0.out HBF2.out.below _ _ rfl rfl ⟨gv, 0, none⟩ _ _ ([] ++ l) rfl rfl HNW.out (by first | decide | omega | (simp only [List.length_append, data_length, List.length_cons, List.length_nil]; omega)) (by first | decide | omega | (simp only [List.length_append, data_length, List.length_cons, List.length_nil]; omega)) ?_
    intro g1 ln1 cp1 w3 hg hw1 hf1
    have HW1 := hw1
    have HF1 := hf1
    obtain ⟨d0, d1, d2, d3, d4, d5, d6, df⟩ := wcell (hg.trans HW0.out.blk)
    clear hw1 hf1 hg
    refine hK.out _ _ (trivial) (fun hHeld => ?_)
    clear hK K
    try simp only [Act.put, List.setIfInBounds_toArray, List.set_cons_zero, List.set_cons_succ]
    refine takeH (i := 7) (some 25) ?vs19 rfl rfl (by kernel_rfl) (by kernel_rfl) (by kernel_rfl) (fun _ _ _ h => h) (by rfl) ?ys20 (by assumption) ?rs21
    case ys20 => intro W hSw; go_simp; all_goals with_reducible rfl
    try simp only [Act.put, List.setIfInBounds_toArray, List.set_cons_zero, List.set_cons_succ]
    refine takeH (i := 8) (some 26) ?vs22 rfl rfl (by kernel_rfl) (by kernel_rfl) (by kernel_rfl) (fun _ _ _ h => h) (by rfl) ?ys23 (by assumption) ?rs24
    case ys23 => intro W hSw; go_simp; all_goals with_reducible rfl
    try simp only [Act.put, List.setIfInBounds_toArray, List.set_cons_zero, List.set_cons_succ]
    refine wpAnyH_ready (rs := [9]) (by kernel_rfl) (by simp) ?_
    refine (AllReadyH.cons rfl (fun K hK => ?_) AllReadyH.nil)
    go_simp
    refine hK.out _ _ (trivial) (fun hHeld => ?_)
    clear hK K
    try simp only [Act.put, List.setIfInBounds_toArray, List.set_cons_zero, List.set_cons_succ]
    refine wpAnyH_done (by kernel_rfl) ?_ _
    refine NoPanic.normal ?_
    generalize w3.setCell ⟨gw, 1, none⟩ (.slice (some ⟨g1, 0, none⟩) ln1 cp1) = W2 at HW1 HF1 ⊢
    clear HW HF c0 c1 c2 c3 c4 c5 c6 cf d0 d1 d2 d3 d4 d5 d6 df f0 f1 f2 f3 f4 f5 f6 ff
    have HW := HW1
    have HF := HF1
    clear HW1 HF1
    obtain ⟨c0, c1, c2, c3, c4, c5, c6, cf⟩ := wcell HW.out.blk
    go_wp2_with (first | ((with_reducible refine wpList_at (some 33) ?_); refine wpList_wr_append HW.out HF.out ((Below.refl _ _).alloc (Nat.le_refl _) _) rfl _ _ rfl rfl ⟨_, 0, none⟩ 1 _ [44] rfl rfl (news_one _ 44) (by decide) (by first | omega | (simp only [List.length_append, data_length, List.length_cons, List.length_nil]; omega)) ?_; intro g1 ln1 cp1 w1 hg hw1 hf1; have hcc := wcell (hg.trans HW.out.blk); clear HW HF c0 c1 c2 c3 c4 c5 c6 cf hg; have HW := hw1; have HF := hf1; clear hw1 hf1; obtain ⟨c0, c1, c2, c3, c4, c5, c6, cf⟩ := hcc) | (go_at_call 46; refine (HW.out.fpop1 HF.out HM.out).mono ?_; rintro e1 w1 ⟨rfl, bv1, gs1, n1, cap1, hw1, hf1⟩; clear HW HF c0 c1 c2 c3 c4 c5 c6 cf; have HW := Lib.hid hw1; have HF := Lib.hid hf1; clear hw1 hf1; obtain ⟨c0, c1, c2, c3, c4, c5, c6, cf⟩ := wcell HW.out.blk))
    go_ret
    exact ⟨rfl, _, _, _, _, HW.out, HF.out⟩
end

end Go.Proofs.YtpkfdbhpmhahaaaGreatDoor
