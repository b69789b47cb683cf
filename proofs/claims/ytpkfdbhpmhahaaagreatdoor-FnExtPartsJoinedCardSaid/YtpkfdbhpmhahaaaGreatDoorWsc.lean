/- Scalars of the writer: those with several parts. -/
import Derived.Test.YtpkfdbhpmhahaaaGreatDoorWsb
namespace Go.Proofs.YtpkfdbhpmhahaaaGreatDoor
open Go Go.RowKit
set_option linter.unusedSimpArgs false
set_option linter.unusedVariables false

theorem Fr.pre {gw gs0 gs : Nat} {bv0 bv : Value} {w wA W : World} (h : Fr gw gs0 bv0 wA gs bv W) (hb : Below w.heap.size w wA) : Fr gw gs0 bv0 w gs bv W := by
  have := hb.size
  exact ⟨(Fw.bel hb).trans h.1 (.inl rfl) (fun _ hk => .inl hk), by have := h.2.1; omega, fun k hk => by
    rcases h.2.2 k hk with e | e
    · exact .inl e
    · exact .inr (by omega)⟩
theorem Fr.old {base gw gs0 gs n cap : Nat} {iv : Value} {can : Bool} {bs : List UInt8} {ms0 : List Int} {m : Int} {bv0 bv : Value} {w0 w : World} (hw : Wr base gw iv can bs ms0 m bv0 gs0 n cap w0) (h : Fr gw gs0 bv0 w0 gs bv w) : ∀ k, k < base → w.heap[k]? = w0.heap[k]? := fun k hk =>
  h.1.block k (Nat.lt_of_lt_of_le hk hw.lt.2.2.2) (by have := hw.hgw; omega) (by have := hw.hgs; omega) (fun e => by have := (hw.lt.2.2.1 k e).1; omega)

section
variable {base gw : Nat} {iv : Value} {can : Bool} {bs : List UInt8} {ms1 : List Int} {m1 m : Int} {bv : Value} {gs n cap : Nat} {w : World}

set_option maxRecDepth 100000 in
set_option maxHeartbeats 1000000 in
theorem Wr.wRegex (h : Wr base gw iv can bs (ms1 ++ [m1]) m bv gs n cap w) (hm : m = 4 ∨ m = 5) (hB : 13 ≤ base) (hT : Tabs w) (hbl : bs.length ≤ 800000000) (s q so : ByteArray) (l l2 : List UInt8) (hl : l.length ≤ 5000) (hl2 : l2.length ≤ 5000) (hE : EscC s l) (hE2 : EscC so l2) (hI : ∀ w, Tabs w → Calls Tryz.prog 84 #[.string q] w (Txt so w)) (TX : List UInt8) (hTX : TX = [] ++ (⟨#[123, 34, 36, 114, 101, 103, 117, 108, 97, 114, 69, 120, 112, 114, 101, 115, 115, 105, 111, 110, 34, 58, 123, 34, 112, 97, 116, 116, 101, 114, 110, 34, 58]⟩ : ByteArray).data.toList ++ l ++ (⟨#[44, 34, 111, 112, 116, 105, 111, 110, 115, 34, 58]⟩ : ByteArray).data.toList ++ l2 ++ (⟨#[125, 125, 44]⟩ : ByteArray).data.toList) (hTl : TX.length ≤ 20000) (hTp : 0 < TX.length) :
    Calls Tryz.prog 62 #[.pointer (some ⟨gw, 0, none⟩), .string s, .string q] w (fun e w' => e = .returned .nilIface ∧ WF base gw iv can (bs ++ TX) ms1 m1 gs bv w w') := by
  obtain ⟨c0, c1, c2, c3, c4, c5, c6, cf⟩ := wcell h.blk
  have kc := fun (W : World) (s : ByteArray) => run_conv_bytes W s
  have HTX := Lib.hid hTX
  clear hTX
  have HE := Lib.hid hE
  clear hE
  have HE2 := Lib.hid hE2
  clear hE2
  have HI := Lib.hid hI
  clear hI
  have HW := Lib.hid h
  have HF := Lib.hid (Fr.refl gw gs bv w)
  have HWS := HW
  have HT := Lib.hid hT
  have HM := Lib.hid hm
  clear h hT hm
  go_enter Tryz.func62, Tryz.ntmps62
  go_upto_region 6 with (first | (go_at_call 22; refine (HW.out.fensure HF.out HM.out _ _ _).mono ?_; rintro e1 w1 ⟨rfl, hw1, hf1⟩; clear HW HF c0 c1 c2 c3 c4 c5 c6 cf; have HW := Lib.hid hw1; have HF := Lib.hid hf1; clear hw1 hf1; obtain ⟨c0, c1, c2, c3, c4, c5, c6, cf⟩ := wcell HW.out.blk) | (go_at_call 84; refine (HI.out _ (Tabs.wr HT.out HWS.out HF.out hB)).mono ?_; rintro e1 w1 ⟨rfl, hb1⟩; have hw1 := HW.out.bel hb1; have hf1 := HF.out.bel hb1; clear hb1; clear HW HF c0 c1 c2 c3 c4 c5 c6 cf; have HW := Lib.hid hw1; have HF := Lib.hid hf1; clear hw1 hf1; obtain ⟨c0, c1, c2, c3, c4, c5, c6, cf⟩ := wcell HW.out.blk))
  have HBF := Lib.hid (BSt.fresh (Below.refl w1.heap.size w1))
  generalize hWb : w1.alloc (.cells #[.slice none 0 0, .int .i64 0, .int .i8 0] 39) = Wb at HBF ⊢
  have HW0 := HW
  have HF0 := HF
  have HB13 : Hid (13 ≤ w1.heap.size) := Lib.hid (Nat.le_trans hB HW0.out.lt.2.2.2)
  have hw1 := HW0.out.bel HBF.out.below
  have hf1 := HF0.out.bel HBF.out.below
  clear hWb
  clear HW HF c0 c1 c2 c3 c4 c5 c6 cf
  have HW := Lib.hid hw1
  have HF := Lib.hid hf1
  clear hw1 hf1
  obtain ⟨c0, c1, c2, c3, c4, c5, c6, cf⟩ := wcell HW.out.blk
  go_upto_region 9 with (first | (go_at_call 39; refine (HE.out _ _ _ _ _ (Tabs.wr HT.out HWS.out HF.out hB) HBF.out (by first | decide | omega | (simp only [List.length_append, data_length, List.length_cons, List.length_nil]; omega)) HB13.out).mono ?_; rintro e1 w2 ⟨rfl, hb2⟩; clear HBF; have HBF := Lib.hid hb2; clear hb2; have hw1 := HW0.out.bel HBF.out.below; have hf1 := HF0.out.bel HBF.out.below; clear HW HF c0 c1 c2 c3 c4 c5 c6 cf; have HW := Lib.hid hw1; have HF := Lib.hid hf1; clear hw1 hf1; obtain ⟨c0, c1, c2, c3, c4, c5, c6, cf⟩ := wcell HW.out.blk) | (go_at_call 50; refine (HBF.out.str (by first | decide | omega | (simp only [List.length_append, data_length, List.length_cons, List.length_nil]; omega)) _ (by first | decide | omega)).mono ?_; rintro e1 w2 ⟨rfl, hb2⟩; clear HBF; have HBF := Lib.hid hb2; clear hb2; have hw1 := HW0.out.bel HBF.out.below; have hf1 := HF0.out.bel HBF.out.below; clear HW HF c0 c1 c2 c3 c4 c5 c6 cf; have HW := Lib.hid hw1; have HF := Lib.hid hf1; clear hw1 hf1; obtain ⟨c0, c1, c2, c3, c4, c5, c6, cf⟩ := wcell HW.out.blk))
  go_upto_region 11 with (first | (go_at_call 39; refine (HE2.out _ _ _ _ _ (Tabs.wr HT.out HWS.out HF.out hB) HBF.out (by first | decide | omega | (simp only [List.length_append, data_length, List.length_cons, List.length_nil]; omega)) HB13.out).mono ?_; rintro e1 w2 ⟨rfl, hb2⟩; clear HBF; have HBF := Lib.hid hb2; clear hb2; have hw1 := HW0.out.bel HBF.out.below; have hf1 := HF0.out.bel HBF.out.below; clear HW HF c0 c1 c2 c3 c4 c5 c6 cf; have HW := Lib.hid hw1; have HF := Lib.hid hf1; clear hw1 hf1; obtain ⟨c0, c1, c2, c3, c4, c5, c6, cf⟩ := wcell HW.out.blk) | (go_at_call 50; refine (HBF.out.str (by first | decide | omega | (simp only [List.length_append, data_length, List.length_cons, List.length_nil]; omega)) _ (by first | decide | omega)).mono ?_; rintro e1 w2 ⟨rfl, hb2⟩; clear HBF; have HBF := Lib.hid hb2; clear hb2; have hw1 := HW0.out.bel HBF.out.below; have hf1 := HF0.out.bel HBF.out.below; clear HW HF c0 c1 c2 c3 c4 c5 c6 cf; have HW := Lib.hid hw1; have HF := Lib.hid hf1; clear hw1 hf1; obtain ⟨c0, c1, c2, c3, c4, c5, c6, cf⟩ := wcell HW.out.blk))
  have HBT : Hid (BSt _ _ TX _ _) := Lib.hid (by rw [HTX.out]; exact HBF.out)
  clear HBF
  have HBF := HBT
  clear HBT
  refine wp_region_noPanic ?_
  refine wp_region_held_drew (S := fun _ => True) (by kernel_rfl) (trivial) (fun hHeld => ?_)
  refine takeH (i := 0) (some 31) ?vr1 rfl rfl (by kernel_rfl) (by kernel_rfl) (by kernel_rfl) (fun _ _ _ h => h) (by rfl) ?yr2 (by assumption) ?rr3
  case yr2 => intro W hSw; go_simp; all_goals with_reducible rfl
  try simp only [Act.put, List.setIfInBounds_toArray, List.set_cons_zero, List.set_cons_succ]
  refine takeH (i := 1) (some 32) ?vr4 rfl rfl (by kernel_rfl) (by kernel_rfl) (by kernel_rfl) (fun _ _ _ h => h) (by rfl) ?yr5 (by assumption) ?rr6
  case yr5 => intro W hSw; go_simp; all_goals with_reducible rfl
  try simp only [Act.put, List.setIfInBounds_toArray, List.set_cons_zero, List.set_cons_succ]
  refine takeH (i := 2) (some 33) ?vr7 rfl rfl (by kernel_rfl) (by kernel_rfl) (by kernel_rfl) (fun _ _ _ h => h) (by rfl) ?yr8 (by assumption) ?rr9
  case yr8 => intro W hSw; go_simp; all_goals with_reducible rfl
  try simp only [Act.put, List.setIfInBounds_toArray, List.set_cons_zero, List.set_cons_succ]
  refine takeH (i := 3) (some 34) ?vr10 rfl rfl (by kernel_rfl) (by kernel_rfl) (by kernel_rfl) (fun _ _ _ h => h) (by rfl) ?yr11 (by assumption) ?rr12
  case yr11 => intro W hSw; go_simp; all_goals with_reducible rfl
  try simp only [Act.put, List.setIfInBounds_toArray, List.set_cons_zero, List.set_cons_succ]
  refine wpAnyH_ready (rs := [4, 5]) (by kernel_rfl) (by simp) ?_
  refine (AllReadyH.cons rfl (fun K hK => ?_) (AllReadyH.cons rfl (fun K hK => ?_) AllReadyH.nil))
  · go_simp
    refine hK.out _ _ (trivial) (fun hHeld => ?_)
    clear hK K
    try simp only [Act.put, List.setIfInBounds_toArray, List.set_cons_zero, List.set_cons_succ]
    refine wpAnyH_ready (rs := [5]) (by kernel_rfl) (by simp) ?_
    refine (AllReadyH.cons rfl (fun K hK => ?_) AllReadyH.nil)
    go_simp
    refine ((HBF.out.dr).bytes (by first | decide | omega | (simp only [List.length_append, data_length, List.length_cons, List.length_nil]; omega))).mono ?_
    rintro e2 w2 ⟨gv, cv, rfl, hnews, hb2⟩
    have HBF2 := Lib.hid hb2
    have HNW := Lib.hid hnews
    clear hb2 hnews
    obtain ⟨f0, f1, f2, f3, f4, f5, f6, ff⟩ := wcell (HW0.out.bel HBF2.out.below).blk
    refine hK.out _ _ (trivial) (fun hHeld => ?_)
    clear hK K
    try simp only [Act.put, List.setIfInBounds_toArray, List.set_cons_zero, List.set_cons_succ]
    refine wpAnyH_ready (rs := [6]) (by kernel_rfl) (by simp) ?_
    refine (AllReadyH.cons rfl (fun K hK => ?_) AllReadyH.nil)
    rw [if_pos (by rfl)]
    refine wp_wr_append HW0.out HF0.out HBF2.out.below _ _ rfl rfl ⟨gv, 0, none⟩ _ _ (TX) rfl rfl HNW.out (by first | decide | omega | (simp only [List.length_append, data_length, List.length_cons, List.length_nil]; omega)) (by first | decide | omega | (simp only [List.length_append, data_length, List.length_cons, List.length_nil]; omega)) ?_
    intro g1 ln1 cp1 w3 hg hw1 hf1
    have HW1 := hw1
    have HF1 := hf1
    obtain ⟨d0, d1, d2, d3, d4, d5, d6, df⟩ := wcell (hg.trans HW0.out.blk)
    clear hw1 hf1 hg
    refine hK.out _ _ (trivial) (fun hHeld => ?_)
    clear hK K
    try simp only [Act.put, List.setIfInBounds_toArray, List.set_cons_zero, List.set_cons_succ]
    refine takeH (i := 7) (some 38) ?vr13 rfl rfl (by kernel_rfl) (by kernel_rfl) (by kernel_rfl) (fun _ _ _ h => h) (by rfl) ?yr14 (by assumption) ?rr15
    case yr14 => intro W hSw; go_simp; all_goals with_reducible rfl
    try simp only [Act.put, List.setIfInBounds_toArray, List.set_cons_zero, List.set_cons_succ]
    refine takeH (i := 8) (some 39) ?vr16 rfl rfl (by kernel_rfl) (by kernel_rfl) (by kernel_rfl) (fun _ _ _ h => h) (by rfl) ?yr17 (by assumption) ?rr18
    case yr17 => intro W hSw; go_simp; all_goals with_reducible rfl
    try simp only [Act.put, List.setIfInBounds_toArray, List.set_cons_zero, List.set_cons_succ]
    refine wpAnyH_ready (rs := [9]) (by kernel_rfl) (by simp) ?_
    refine (AllReadyH.cons rfl (fun K hK => ?_) AllReadyH.nil)
    go_simp
    refine hK.out _ _ (trivial) (fun hHeld => ?_)
    clear hK K
    try simp only [Act.put, List.setIfInBounds_toArray, List.set_cons_zero, List.set_cons_succ]
    refine wpAnyH_done (by kernel_rfl) ?_ _
    refine NoPanic.normal ?_
    generalize w3.setCell ⟨gw, 1, none⟩ (.slice (some ⟨g1, 0, none⟩) ln1 cp1) = W2 at HW1 HF1 ⊢
    clear HW HF c0 c1 c2 c3 c4 c5 c6 cf d0 d1 d2 d3 d4 d5 d6 df f0 f1 f2 f3 f4 f5 f6 ff
    have HW := HW1
    have HF := HF1
    clear HW1 HF1
    obtain ⟨c0, c1, c2, c3, c4, c5, c6, cf⟩ := wcell HW.out.blk
    go_wp2_with (first | (go_at_call 46; refine (HW.out.fpop1 HF.out HM.out).mono ?_; rintro e1 w1 ⟨rfl, bv1, gs1, n1, cap1, hw1, hf1⟩; clear HW HF c0 c1 c2 c3 c4 c5 c6 cf; have HW := Lib.hid hw1; have HF := Lib.hid hf1; clear hw1 hf1; obtain ⟨c0, c1, c2, c3, c4, c5, c6, cf⟩ := wcell HW.out.blk))
    go_ret
    exact ⟨rfl, _, _, _, _, HW.out, HF.out⟩
  · go_simp
    refine ((HBF.out.dr).bytes (by first | decide | omega | (simp only [List.length_append, data_length, List.length_cons, List.length_nil]; omega))).mono ?_
    rintro e2 w2 ⟨gv, cv, rfl, hnews, hb2⟩
    have HBF2 := Lib.hid hb2
    have HNW := Lib.hid hnews
    clear hb2 hnews
    obtain ⟨f0, f1, f2, f3, f4, f5, f6, ff⟩ := wcell (HW0.out.bel HBF2.out.below).blk
    refine hK.out _ _ (trivial) (fun hHeld => ?_)
    clear hK K
    try simp only [Act.put, List.setIfInBounds_toArray, List.set_cons_zero, List.set_cons_succ]
    refine wpAnyH_ready (rs := [4]) (by kernel_rfl) (by simp) ?_
    refine (AllReadyH.cons rfl (fun K hK => ?_) AllReadyH.nil)
    go_simp
    refine hK.out _ _ (trivial) (fun hHeld => ?_)
    clear hK K
    try simp only [Act.put, List.setIfInBounds_toArray, List.set_cons_zero, List.set_cons_succ]
    refine wpAnyH_ready (rs := [6]) (by kernel_rfl) (by simp) ?_
    refine (AllReadyH.cons rfl (fun K hK => ?_) AllReadyH.nil)
    rw [if_pos (by rfl)]
    refine wp_wr_append HW0.out HF0.out HBF2.out.below _ _ rfl rfl ⟨gv, 0, none⟩ _ _ (TX) rfl rfl HNW.out (by first | decide | omega | (simp only [List.length_append, data_length, List.length_cons, List.length_nil]; omega)) (by first | decide | omega | (simp only [List.length_append, data_length, List.length_cons, List.length_nil]; omega)) ?_
    intro g1 ln1 cp1 w3 hg hw1 hf1
    have HW1 := hw1
    have HF1 := hf1
    obtain ⟨d0, d1, d2, d3, d4, d5, d6, df⟩ := wcell (hg.trans HW0.out.blk)
    clear hw1 hf1 hg
    refine hK.out _ _ (trivial) (fun hHeld => ?_)
    clear hK K
    try simp only [Act.put, List.setIfInBounds_toArray, List.set_cons_zero, List.set_cons_succ]
    refine takeH (i := 7) (some 38) ?vr19 rfl rfl (by kernel_rfl) (by kernel_rfl) (by kernel_rfl) (fun _ _ _ h => h) (by rfl) ?yr20 (by assumption) ?rr21
    case yr20 => intro W hSw; go_simp; all_goals with_reducible rfl
    try simp only [Act.put, List.setIfInBounds_toArray, List.set_cons_zero, List.set_cons_succ]
    refine takeH (i := 8) (some 39) ?vr22 rfl rfl (by kernel_rfl) (by kernel_rfl) (by kernel_rfl) (fun _ _ _ h => h) (by rfl) ?yr23 (by assumption) ?rr24
    case yr23 => intro W hSw; go_simp; all_goals with_reducible rfl
    try simp only [Act.put, List.setIfInBounds_toArray, List.set_cons_zero, List.set_cons_succ]
    refine wpAnyH_ready (rs := [9]) (by kernel_rfl) (by simp) ?_
    refine (AllReadyH.cons rfl (fun K hK => ?_) AllReadyH.nil)
    go_simp
    refine hK.out _ _ (trivial) (fun hHeld => ?_)
    clear hK K
    try simp only [Act.put, List.setIfInBounds_toArray, List.set_cons_zero, List.set_cons_succ]
    refine wpAnyH_done (by kernel_rfl) ?_ _
    refine NoPanic.normal ?_
    generalize w3.setCell ⟨gw, 1, none⟩ (.slice (some ⟨g1, 0, none⟩) ln1 cp1) = W2 at HW1 HF1 ⊢
    clear HW HF c0 c1 c2 c3 c4 c5 c6 cf d0 d1 d2 d3 d4 d5 d6 df f0 f1 f2 f3 f4 f5 f6 ff
    have HW := HW1
    have HF := HF1
    clear HW1 HF1
    obtain ⟨c0, c1, c2, c3, c4, c5, c6, cf⟩ := wcell HW.out.blk
    go_wp2_with (first | (go_at_call 46; refine (HW.out.fpop1 HF.out HM.out).mono ?_; rintro e1 w1 ⟨rfl, bv1, gs1, n1, cap1, hw1, hf1⟩; clear HW HF c0 c1 c2 c3 c4 c5 c6 cf; have HW := Lib.hid hw1; have HF := Lib.hid hf1; clear hw1 hf1; obtain ⟨c0, c1, c2, c3, c4, c5, c6, cf⟩ := wcell HW.out.blk))
    go_ret
    exact ⟨rfl, _, _, _, _, HW.out, HF.out⟩

set_option maxRecDepth 100000 in
set_option maxHeartbeats 1000000 in
theorem Wr.wTimestamp (h : Wr base gw iv can bs (ms1 ++ [m1]) m bv gs n cap w) (hm : m = 4 ∨ m = 5) (hB : 13 ≤ base) (hT : Tabs w) (hbl : bs.length ≤ 800000000) (N M : Int) (hN : 0 ≤ N ∧ N ≤ 4294967295) (hM : 0 ≤ M ∧ M ≤ 4294967295) (it it2 : ByteArray) (hit : it.size ≤ 400) (hit2 : it2.size ≤ 400) (hI : ∀ w, Tabs w → Calls Tryz.prog 85 #[.int .u64 N, .int .i64 10] w (Txt it w)) (hI2 : ∀ w, Tabs w → Calls Tryz.prog 85 #[.int .u64 M, .int .i64 10] w (Txt it2 w)) (TX : List UInt8) (hTX : TX = [] ++ (⟨#[123, 34, 36, 116, 105, 109, 101, 115, 116, 97, 109, 112, 34, 58, 123, 34, 116, 34, 58]⟩ : ByteArray).data.toList ++ it.data.toList ++ (⟨#[44, 34, 105, 34, 58]⟩ : ByteArray).data.toList ++ it2.data.toList ++ (⟨#[125, 125, 44]⟩ : ByteArray).data.toList) (hTl : TX.length ≤ 20000) (hTp : 0 < TX.length) :
    Calls Tryz.prog 67 #[.pointer (some ⟨gw, 0, none⟩), .int .u32 N, .int .u32 M] w (fun e w' => e = .returned .nilIface ∧ WF base gw iv can (bs ++ TX) ms1 m1 gs bv w w') := by
  obtain ⟨c0, c1, c2, c3, c4, c5, c6, cf⟩ := wcell h.blk
  have kc := fun (W : World) (s : ByteArray) => run_conv_bytes W s
  have HTX := Lib.hid hTX
  clear hTX
  have HI := Lib.hid hI
  clear hI
  have HI2 := Lib.hid hI2
  clear hI2
  obtain ⟨hN0, hN1⟩ := hN
  obtain ⟨hM0, hM1⟩ := hM
  have HW := Lib.hid h
  have HF := Lib.hid (Fr.refl gw gs bv w)
  have HWS := HW
  have HT := Lib.hid hT
  have HM := Lib.hid hm
  clear h hT hm
  go_enter Tryz.func67, Tryz.ntmps67
  go_upto_region 5 with (first | (go_at_call 22; refine (HW.out.fensure HF.out HM.out _ _ _).mono ?_; rintro e1 w1 ⟨rfl, hw1, hf1⟩; clear HW HF c0 c1 c2 c3 c4 c5 c6 cf; have HW := Lib.hid hw1; have HF := Lib.hid hf1; clear hw1 hf1; obtain ⟨c0, c1, c2, c3, c4, c5, c6, cf⟩ := wcell HW.out.blk))
  have HBF := Lib.hid (BSt.fresh (Below.refl w1.heap.size w1))
  generalize hWb : w1.alloc (.cells #[.slice none 0 0, .int .i64 0, .int .i8 0] 39) = Wb at HBF ⊢
  have HW0 := HW
  have HF0 := HF
  have HB13 : Hid (13 ≤ w1.heap.size) := Lib.hid (Nat.le_trans hB HW0.out.lt.2.2.2)
  have hw1 := HW0.out.bel HBF.out.below
  have hf1 := HF0.out.bel HBF.out.below
  clear hWb
  clear HW HF c0 c1 c2 c3 c4 c5 c6 cf
  have HW := Lib.hid hw1
  have HF := Lib.hid hf1
  clear hw1 hf1
  obtain ⟨c0, c1, c2, c3, c4, c5, c6, cf⟩ := wcell HW.out.blk
  go_upto_region 10 with (first | (go_at_call 85; refine (HI.out _ (Tabs.wr HT.out HWS.out HF.out hB)).mono ?_; rintro e1 w2 ⟨rfl, hb2⟩; have hbf := HBF.out.go hb2; clear HBF hb2; have HBF := Lib.hid hbf; clear hbf; have hw1 := HW0.out.bel HBF.out.below; have hf1 := HF0.out.bel HBF.out.below; clear HW HF c0 c1 c2 c3 c4 c5 c6 cf; have HW := Lib.hid hw1; have HF := Lib.hid hf1; clear hw1 hf1; obtain ⟨c0, c1, c2, c3, c4, c5, c6, cf⟩ := wcell HW.out.blk) | (go_at_call 85; refine (HI2.out _ (Tabs.wr HT.out HWS.out HF.out hB)).mono ?_; rintro e1 w2 ⟨rfl, hb2⟩; have hbf := HBF.out.go hb2; clear HBF hb2; have HBF := Lib.hid hbf; clear hbf; have hw1 := HW0.out.bel HBF.out.below; have hf1 := HF0.out.bel HBF.out.below; clear HW HF c0 c1 c2 c3 c4 c5 c6 cf; have HW := Lib.hid hw1; have HF := Lib.hid hf1; clear hw1 hf1; obtain ⟨c0, c1, c2, c3, c4, c5, c6, cf⟩ := wcell HW.out.blk) | (go_at_call 50; refine (HBF.out.str (by first | decide | omega | (simp only [List.length_append, data_length, List.length_cons, List.length_nil]; omega)) _ (by first | decide | omega)).mono ?_; rintro e1 w2 ⟨rfl, hb2⟩; clear HBF; have HBF := Lib.hid hb2; clear hb2; have hw1 := HW0.out.bel HBF.out.below; have hf1 := HF0.out.bel HBF.out.below; clear HW HF c0 c1 c2 c3 c4 c5 c6 cf; have HW := Lib.hid hw1; have HF := Lib.hid hf1; clear hw1 hf1; obtain ⟨c0, c1, c2, c3, c4, c5, c6, cf⟩ := wcell HW.out.blk))
  have HBT : Hid (BSt _ _ TX _ _) := Lib.hid (by rw [HTX.out]; exact HBF.out)
  clear HBF
  have HBF := HBT
  clear HBT
  refine wp_region_noPanic ?_
  refine wp_region_held_drew (S := fun _ => True) (by kernel_rfl) (trivial) (fun hHeld => ?_)
  refine takeH (i := 0) (some 25) ?vt25 rfl rfl (by kernel_rfl) (by kernel_rfl) (by kernel_rfl) (fun _ _ _ h => h) (by rfl) ?yt26 (by assumption) ?rt27
  case yt26 => intro W hSw; go_simp; all_goals with_reducible rfl
  try simp only [Act.put, List.setIfInBounds_toArray, List.set_cons_zero, List.set_cons_succ]
  refine takeH (i := 1) (some 26) ?vt28 rfl rfl (by kernel_rfl) (by kernel_rfl) (by kernel_rfl) (fun _ _ _ h => h) (by rfl) ?yt29 (by assumption) ?rt30
  case yt29 => intro W hSw; go_simp; all_goals with_reducible rfl
  try simp only [Act.put, List.setIfInBounds_toArray, List.set_cons_zero, List.set_cons_succ]
  refine takeH (i := 2) (some 27) ?vt31 rfl rfl (by kernel_rfl) (by kernel_rfl) (by kernel_rfl) (fun _ _ _ h => h) (by rfl) ?yt32 (by assumption) ?rt33
  case yt32 => intro W hSw; go_simp; all_goals with_reducible rfl
  try simp only [Act.put, List.setIfInBounds_toArray, List.set_cons_zero, List.set_cons_succ]
  refine takeH (i := 3) (some 28) ?vt34 rfl rfl (by kernel_rfl) (by kernel_rfl) (by kernel_rfl) (fun _ _ _ h => h) (by rfl) ?yt35 (by assumption) ?rt36
  case yt35 => intro W hSw; go_simp; all_goals with_reducible rfl
  try simp only [Act.put, List.setIfInBounds_toArray, List.set_cons_zero, List.set_cons_succ]
  refine wpAnyH_ready (rs := [4, 5]) (by kernel_rfl) (by simp) ?_
  refine (AllReadyH.cons rfl (fun K hK => ?_) (AllReadyH.cons rfl (fun K hK => ?_) AllReadyH.nil))
  · go_simp
    refine hK.out _ _ (trivial) (fun hHeld => ?_)
    clear hK K
    try simp only [Act.put, List.setIfInBounds_toArray, List.set_cons_zero, List.set_cons_succ]
    refine wpAnyH_ready (rs := [5]) (by kernel_rfl) (by simp) ?_
    refine (AllReadyH.cons rfl (fun K hK => ?_) AllReadyH.nil)
    go_simp
    refine ((HBF.out.dr).bytes (by first | decide | omega | (simp only [List.length_append, data_length, List.length_cons, List.length_nil]; omega))).mono ?_
    rintro e2 w2 ⟨gv, cv, rfl, hnews, hb2⟩
    have HBF2 := Lib.hid hb2
    have HNW := Lib.hid hnews
    clear hb2 hnews
    obtain ⟨f0, f1, f2, f3, f4, f5, f6, ff⟩ := wcell (HW0.out.bel HBF2.out.below).blk
    refine hK.out _ _ (trivial) (fun hHeld => ?_)
    clear hK K
    try simp only [Act.put, List.setIfInBounds_toArray, List.set_cons_zero, List.set_cons_succ]
    refine wpAnyH_ready (rs := [6]) (by kernel_rfl) (by simp) ?_
    refine (AllReadyH.cons rfl (fun K hK => ?_) AllReadyH.nil)
    rw [if_pos (by rfl)]
    refine wp_wr_append HW0.out HF0.out HBF2.out.below _ _ rfl rfl ⟨gv, 0, none⟩ _ _ (TX) rfl rfl HNW.out (by first | decide | omega | (simp only [List.length_append, data_length, List.length_cons, List.length_nil]; omega)) (by first | decide | omega | (simp only [List.length_append, data_length, List.length_cons, List.length_nil]; omega)) ?_
    intro g1 ln1 cp1 w3 hg hw1 hf1
    have HW1 := hw1
    have HF1 := hf1
    obtain ⟨d0, d1, d2, d3, d4, d5, d6, df⟩ := wcell (hg.trans HW0.out.blk)
    clear hw1 hf1 hg
    refine hK.out _ _ (trivial) (fun hHeld => ?_)
    clear hK K
    try simp only [Act.put, List.setIfInBounds_toArray, List.set_cons_zero, List.set_cons_succ]
    refine takeH (i := 7) (some 32) ?vt37 rfl rfl (by kernel_rfl) (by kernel_rfl) (by kernel_rfl) (fun _ _ _ h => h) (by rfl) ?yt38 (by assumption) ?rt39
    case yt38 => intro W hSw; go_simp; all_goals with_reducible rfl
    try simp only [Act.put, List.setIfInBounds_toArray, List.set_cons_zero, List.set_cons_succ]
    refine takeH (i := 8) (some 33) ?vt40 rfl rfl (by kernel_rfl) (by kernel_rfl) (by kernel_rfl) (fun _ _ _ h => h) (by rfl) ?yt41 (by assumption) ?rt42
    case yt41 => intro W hSw; go_simp; all_goals with_reducible rfl
    try simp only [Act.put, List.setIfInBounds_toArray, List.set_cons_zero, List.set_cons_succ]
    refine wpAnyH_ready (rs := [9]) (by kernel_rfl) (by simp) ?_
    refine (AllReadyH.cons rfl (fun K hK => ?_) AllReadyH.nil)
    go_simp
    refine hK.out _ _ (trivial) (fun hHeld => ?_)
    clear hK K
    try simp only [Act.put, List.setIfInBounds_toArray, List.set_cons_zero, List.set_cons_succ]
    refine wpAnyH_done (by kernel_rfl) ?_ _
    refine NoPanic.normal ?_
    generalize w3.setCell ⟨gw, 1, none⟩ (.slice (some ⟨g1, 0, none⟩) ln1 cp1) = W2 at HW1 HF1 ⊢
    clear HW HF c0 c1 c2 c3 c4 c5 c6 cf d0 d1 d2 d3 d4 d5 d6 df f0 f1 f2 f3 f4 f5 f6 ff
    have HW := HW1
    have HF := HF1
    clear HW1 HF1
    obtain ⟨c0, c1, c2, c3, c4, c5, c6, cf⟩ := wcell HW.out.blk
    go_wp2_with (first | (go_at_call 46; refine (HW.out.fpop1 HF.out HM.out).mono ?_; rintro e1 w1 ⟨rfl, bv1, gs1, n1, cap1, hw1, hf1⟩; clear HW HF c0 c1 c2 c3 c4 c5 c6 cf; have HW := Lib.hid hw1; have HF := Lib.hid hf1; clear hw1 hf1; obtain ⟨c0, c1, c2, c3, c4, c5, c6, cf⟩ := wcell HW.out.blk))
    go_ret
    exact ⟨rfl, _, _, _, _, HW.out, HF.out⟩
  · go_simp
    refine ((HBF.out.dr).bytes (by first | decide | omega | (simp only [List.length_append, data_length, List.length_cons, List.length_nil]; omega))).mono ?_
    rintro e2 w2 ⟨gv, cv, rfl, hnews, hb2⟩
    have HBF2 := Lib.hid hb2
    have HNW := Lib.hid hnews
    clear hb2 hnews
    obtain ⟨f0, f1, f2, f3, f4, f5, f6, ff⟩ := wcell (HW0.out.bel HBF2.out.below).blk
    refine hK.out _ _ (trivial) (fun hHeld => ?_)
    clear hK K
    try simp only [Act.put, List.setIfInBounds_toArray, List.set_cons_zero, List.set_cons_succ]
    refine wpAnyH_ready (rs := [4]) (by kernel_rfl) (by simp) ?_
    refine (AllReadyH.cons rfl (fun K hK => ?_) AllReadyH.nil)
    go_simp
    refine hK.out _ _ (trivial) (fun hHeld => ?_)
    clear hK K
    try simp only [Act.put, List.setIfInBounds_toArray, List.set_cons_zero, List.set_cons_succ]
    refine wpAnyH_ready (rs := [6]) (by kernel_rfl) (by simp) ?_
    refine (AllReadyH.cons rfl (fun K hK => ?_) AllReadyH.nil)
    rw [if_pos (by rfl)]
    refine wp_wr_append HW0.out HF0.out HBF2.out.below _ _ rfl rfl ⟨gv, 0, none⟩ _ _ (TX) rfl rfl HNW.out (by first | decide | omega | (simp only [List.length_append, data_length, List.length_cons, List.length_nil]; omega)) (by first | decide | omega | (simp only [List.length_append, data_length, List.length_cons, List.length_nil]; omega)) ?_
    intro g1 ln1 cp1 w3 hg hw1 hf1
    have HW1 := hw1
    have HF1 := hf1
    obtain ⟨d0, d1, d2, d3, d4, d5, d6, df⟩ := wcell (hg.trans HW0.out.blk)
    clear hw1 hf1 hg
    refine hK.out _ _ (trivial) (fun hHeld => ?_)
    clear hK K
    try simp only [Act.put, List.setIfInBounds_toArray, List.set_cons_zero, List.set_cons_succ]
    refine takeH (i := 7) (some 32) ?vt43 rfl rfl (by kernel_rfl) (by kernel_rfl) (by kernel_rfl) (fun _ _ _ h => h) (by rfl) ?yt44 (by assumption) ?rt45
    case yt44 => intro W hSw; go_simp; all_goals with_reducible rfl
    try simp only [Act.put, List.setIfInBounds_toArray, List.set_cons_zero, List.set_cons_succ]
    refine takeH (i := 8) (some 33) ?vt46 rfl rfl (by kernel_rfl) (by kernel_rfl) (by kernel_rfl) (fun _ _ _ h => h) (by rfl) ?yt47 (by assumption) ?rt48
    case yt47 => intro W hSw; go_simp; all_goals with_reducible rfl
    try simp only [Act.put, List.setIfInBounds_toArray, List.set_cons_zero, List.set_cons_succ]
    refine wpAnyH_ready (rs := [9]) (by kernel_rfl) (by simp) ?_
    refine (AllReadyH.cons rfl (fun K hK => ?_) AllReadyH.nil)
    go_simp
    refine hK.out _ _ (trivial) (fun hHeld => ?_)
    clear hK K
    try simp only [Act.put, List.setIfInBounds_toArray, List.set_cons_zero, List.set_cons_succ]
    refine wpAnyH_done (by kernel_rfl) ?_ _
    refine NoPanic.normal ?_
    generalize w3.setCell ⟨gw, 1, none⟩ (.slice (some ⟨g1, 0, none⟩) ln1 cp1) = W2 at HW1 HF1 ⊢
    clear HW HF c0 c1 c2 c3 c4 c5 c6 cf d0 d1 d2 d3 d4 d5 d6 df f0 f1 f2 f3 f4 f5 f6 ff
    have HW := HW1
    have HF := HF1
    clear HW1 HF1
    obtain ⟨c0, c1, c2, c3, c4, c5, c6, cf⟩ := wcell HW.out.blk
    go_wp2_with (first | (go_at_call 46; refine (HW.out.fpop1 HF.out HM.out).mono ?_; rintro e1 w1 ⟨rfl, bv1, gs1, n1, cap1, hw1, hf1⟩; clear HW HF c0 c1 c2 c3 c4 c5 c6 cf; have HW := Lib.hid hw1; have HF := Lib.hid hf1; clear hw1 hf1; obtain ⟨c0, c1, c2, c3, c4, c5, c6, cf⟩ := wcell HW.out.blk))
    go_ret
    exact ⟨rfl, _, _, _, _, HW.out, HF.out⟩

set_option maxRecDepth 100000 in
set_option maxHeartbeats 1000000 in
theorem Wr.wBinary (h : Wr base gw iv can bs (ms1 ++ [m1]) m bv gs n cap w) (hm : m = 4 ∨ m = 5) (hB : 13 ≤ base) (hT : Tabs w) (hbl : bs.length ≤ 800000000) (N : Int) (ba : Option Addr) (bn bc : Nat) (it it2 : ByteArray) (hit : it.size ≤ 400) (hit2 : it2.size ≤ 400) (hI : ∀ w2 : World, (∀ k, k < base → w2.heap[k]? = w.heap[k]?) → Tabs w2 → Calls Tryz.prog 79 #[.slice ba bn bc] w2 (Txt it w2)) (hI2 : ∀ w, Tabs w → Calls Tryz.prog 80 #[.int .u8 N] w (Txt it2 w)) (TX : List UInt8) (hTX : TX = [] ++ (⟨#[123, 34, 36, 98, 105, 110, 97, 114, 121, 34, 58, 123, 34, 98, 97, 115, 101, 54, 52, 34, 58, 34]⟩ : ByteArray).data.toList ++ it.data.toList ++ (((⟨#[34, 44, 34, 115, 117, 98, 84, 121, 112, 101, 34, 58, 34]⟩ : ByteArray) ++ it2) ++ ⟨#[34, 125, 125, 44]⟩).data.toList) (hTl : TX.length ≤ 20000) (hTp : 0 < TX.length) :
    Calls Tryz.prog 55 #[.pointer (some ⟨gw, 0, none⟩), .slice ba bn bc, .int .u8 N] w (fun e w' => e = .returned .nilIface ∧ WF base gw iv can (bs ++ TX) ms1 m1 gs bv w w') := by
  obtain ⟨c0, c1, c2, c3, c4, c5, c6, cf⟩ := wcell h.blk
  have kc := fun (W : World) (s : ByteArray) => run_conv_bytes W s
  have HTX := Lib.hid hTX
  clear hTX
  have HI := Lib.hid hI
  clear hI
  have HI2 := Lib.hid hI2
  clear hI2
  have e1 : (⟨#[34, 44, 34, 115, 117, 98, 84, 121, 112, 101, 34, 58, 34]⟩ : ByteArray).size = 13 := rfl
  have e2 : (⟨#[34, 125, 125, 44]⟩ : ByteArray).size = 4 := rfl
  have hdz : (((⟨#[34, 44, 34, 115, 117, 98, 84, 121, 112, 101, 34, 58, 34]⟩ : ByteArray) ++ it2) ++ ⟨#[34, 125, 125, 44]⟩).size ≤ 500 := by rw [ByteArray.size_append, ByteArray.size_append, e1, e2]; omega
  have HW := Lib.hid h
  have HF := Lib.hid (Fr.refl gw gs bv w)
  have HWS := HW
  have HT := Lib.hid hT
  have HM := Lib.hid hm
  clear h hT hm
  go_enter Tryz.func55, Tryz.ntmps55
  go_upto_region 5 with (first | (go_at_call 22; refine (HW.out.fensure HF.out HM.out _ _ _).mono ?_; rintro e1 w1 ⟨rfl, hw1, hf1⟩; clear HW HF c0 c1 c2 c3 c4 c5 c6 cf; have HW := Lib.hid hw1; have HF := Lib.hid hf1; clear hw1 hf1; obtain ⟨c0, c1, c2, c3, c4, c5, c6, cf⟩ := wcell HW.out.blk))
  have HBF := Lib.hid (BSt.fresh (Below.refl w1.heap.size w1))
  generalize hWb : w1.alloc (.cells #[.slice none 0 0, .int .i64 0, .int .i8 0] 39) = Wb at HBF ⊢
  have HW0 := HW
  have HF0 := HF
  have HB13 : Hid (13 ≤ w1.heap.size) := Lib.hid (Nat.le_trans hB HW0.out.lt.2.2.2)
  have hw1 := HW0.out.bel HBF.out.below
  have hf1 := HF0.out.bel HBF.out.below
  clear hWb
  clear HW HF c0 c1 c2 c3 c4 c5 c6 cf
  have HW := Lib.hid hw1
  have HF := Lib.hid hf1
  clear hw1 hf1
  obtain ⟨c0, c1, c2, c3, c4, c5, c6, cf⟩ := wcell HW.out.blk
  go_upto_region 8 with (first | (go_at_call 79; refine (HI.out _ (Fr.old HWS.out HF.out) (Tabs.wr HT.out HWS.out HF.out hB)).mono ?_; rintro e1 w2 ⟨rfl, hb2⟩; have hbf := HBF.out.go hb2; clear HBF hb2; have HBF := Lib.hid hbf; clear hbf; have hw1 := HW0.out.bel HBF.out.below; have hf1 := HF0.out.bel HBF.out.below; clear HW HF c0 c1 c2 c3 c4 c5 c6 cf; have HW := Lib.hid hw1; have HF := Lib.hid hf1; clear hw1 hf1; obtain ⟨c0, c1, c2, c3, c4, c5, c6, cf⟩ := wcell HW.out.blk) | (go_at_call 80; refine (HI2.out _ (Tabs.wr HT.out HWS.out HF.out hB)).mono ?_; rintro e1 w2 ⟨rfl, hb2⟩; have hbf := HBF.out.go hb2; clear HBF hb2; have HBF := Lib.hid hbf; clear hbf; have hw1 := HW0.out.bel HBF.out.below; have hf1 := HF0.out.bel HBF.out.below; clear HW HF c0 c1 c2 c3 c4 c5 c6 cf; have HW := Lib.hid hw1; have HF := Lib.hid hf1; clear hw1 hf1; obtain ⟨c0, c1, c2, c3, c4, c5, c6, cf⟩ := wcell HW.out.blk) | (go_at_call 50; refine (HBF.out.str (by first | decide | omega | (simp only [List.length_append, data_length, List.length_cons, List.length_nil]; omega)) _ (by first | decide | omega)).mono ?_; rintro e1 w2 ⟨rfl, hb2⟩; clear HBF; have HBF := Lib.hid hb2; clear hb2; have hw1 := HW0.out.bel HBF.out.below; have hf1 := HF0.out.bel HBF.out.below; clear HW HF c0 c1 c2 c3 c4 c5 c6 cf; have HW := Lib.hid hw1; have HF := Lib.hid hf1; clear hw1 hf1; obtain ⟨c0, c1, c2, c3, c4, c5, c6, cf⟩ := wcell HW.out.blk))
  have HBT : Hid (BSt _ _ TX _ _) := Lib.hid (by rw [HTX.out]; exact HBF.out)
  clear HBF
  have HBF := HBT
  clear HBT
  refine wp_region_noPanic ?_
  refine wp_region_held_drew (S := fun _ => True) (by kernel_rfl) (trivial) (fun hHeld => ?_)
  refine takeH (i := 0) (some 23) ?vb49 rfl rfl (by kernel_rfl) (by kernel_rfl) (by kernel_rfl) (fun _ _ _ h => h) (by rfl) ?yb50 (by assumption) ?rb51
  case yb50 => intro W hSw; go_simp; all_goals with_reducible rfl
  try simp only [Act.put, List.setIfInBounds_toArray, List.set_cons_zero, List.set_cons_succ]
  refine takeH (i := 1) (some 24) ?vb52 rfl rfl (by kernel_rfl) (by kernel_rfl) (by kernel_rfl) (fun _ _ _ h => h) (by rfl) ?yb53 (by assumption) ?rb54
  case yb53 => intro W hSw; go_simp; all_goals with_reducible rfl
  try simp only [Act.put, List.setIfInBounds_toArray, List.set_cons_zero, List.set_cons_succ]
  refine takeH (i := 2) (some 25) ?vb55 rfl rfl (by kernel_rfl) (by kernel_rfl) (by kernel_rfl) (fun _ _ _ h => h) (by rfl) ?yb56 (by assumption) ?rb57
  case yb56 => intro W hSw; go_simp; all_goals with_reducible rfl
  try simp only [Act.put, List.setIfInBounds_toArray, List.set_cons_zero, List.set_cons_succ]
  refine takeH (i := 3) (some 26) ?vb58 rfl rfl (by kernel_rfl) (by kernel_rfl) (by kernel_rfl) (fun _ _ _ h => h) (by rfl) ?yb59 (by assumption) ?rb60
  case yb59 => intro W hSw; go_simp; all_goals with_reducible rfl
  try simp only [Act.put, List.setIfInBounds_toArray, List.set_cons_zero, List.set_cons_succ]
  refine wpAnyH_ready (rs := [4, 5]) (by kernel_rfl) (by simp) ?_
  refine (AllReadyH.cons rfl (fun K hK => ?_) (AllReadyH.cons rfl (fun K hK => ?_) AllReadyH.nil))
  · go_simp
    refine hK.out _ _ (trivial) (fun hHeld => ?_)
    clear hK K
    try simp only [Act.put, List.setIfInBounds_toArray, List.set_cons_zero, List.set_cons_succ]
    refine wpAnyH_ready (rs := [5]) (by kernel_rfl) (by simp) ?_
    refine (AllReadyH.cons rfl (fun K hK => ?_) AllReadyH.nil)
    go_simp
    refine ((HBF.out.dr).bytes (by first | decide | omega | (simp only [List.length_append, data_length, List.length_cons, List.length_nil]; omega))).mono ?_
    rintro e2 w2 ⟨gv, cv, rfl, hnews, hb2⟩
    have HBF2 := Lib.hid hb2
    have HNW := Lib.hid hnews
    clear hb2 hnews
    obtain ⟨f0, f1, f2, f3, f4, f5, f6, ff⟩ := wcell (HW0.out.bel HBF2.out.below).blk
    refine hK.out _ _ (trivial) (fun hHeld => ?_)
    clear hK K
    try simp only [Act.put, List.setIfInBounds_toArray, List.set_cons_zero, List.set_cons_succ]
    refine wpAnyH_ready (rs := [6]) (by kernel_rfl) (by simp) ?_
    refine (AllReadyH.cons rfl (fun K hK => ?_) AllReadyH.nil)
    rw [if_pos (by rfl)]
    refine wp_wr_append HW0.out HF0.out HBF2.out.below _ _ rfl rfl ⟨gv, 0, none⟩ _ _ (TX) rfl rfl HNW.out (by first | decide | omega | (simp only [List.length_append, data_length, List.length_cons, List.length_nil]; omega)) (by first | decide | omega | (simp only [List.length_append, data_length, List.length_cons, List.length_nil]; omega)) ?_
    intro g1 ln1 cp1 w3 hg hw1 hf1
    have HW1 := hw1
    have HF1 := hf1
    obtain ⟨d0, d1, d2, d3, d4, d5, d6, df⟩ := wcell (hg.trans HW0.out.blk)
    clear hw1 hf1 hg
    refine hK.out _ _ (trivial) (fun hHeld => ?_)
    clear hK K
    try simp only [Act.put, List.setIfInBounds_toArray, List.set_cons_zero, List.set_cons_succ]
    refine takeH (i := 7) (some 30) ?vb61 rfl rfl (by kernel_rfl) (by kernel_rfl) (by kernel_rfl) (fun _ _ _ h => h) (by rfl) ?yb62 (by assumption) ?rb63
    case yb62 => intro W hSw; go_simp; all_goals with_reducible rfl
    try simp only [Act.put, List.setIfInBounds_toArray, List.set_cons_zero, List.set_cons_succ]
    refine takeH (i := 8) (some 31) ?vb64 rfl rfl (by kernel_rfl) (by kernel_rfl) (by kernel_rfl) (fun _ _ _ h => h) (by rfl) ?yb65 (by assumption) ?rb66
    case yb65 => intro W hSw; go_simp; all_goals with_reducible rfl
    try simp only [Act.put, List.setIfInBounds_toArray, List.set_cons_zero, List.set_cons_succ]
    refine wpAnyH_ready (rs := [9]) (by kernel_rfl) (by simp) ?_
    refine (AllReadyH.cons rfl (fun K hK => ?_) AllReadyH.nil)
    go_simp
    refine hK.out _ _ (trivial) (fun hHeld => ?_)
    clear hK K
    try simp only [Act.put, List.setIfInBounds_toArray, List.set_cons_zero, List.set_cons_succ]
    refine wpAnyH_done (by kernel_rfl) ?_ _
    refine NoPanic.normal ?_
    generalize w3.setCell ⟨gw, 1, none⟩ (.slice (some ⟨g1, 0, none⟩) ln1 cp1) = W2 at HW1 HF1 ⊢
    clear HW HF c0 c1 c2 c3 c4 c5 c6 cf d0 d1 d2 d3 d4 d5 d6 df f0 f1 f2 f3 f4 f5 f6 ff
    have HW := HW1
    have HF := HF1
    clear HW1 HF1
    obtain ⟨c0, c1, c2, c3, c4, c5, c6, cf⟩ := wcell HW.out.blk
    go_wp2_with (first | (go_at_call 46; refine (HW.out.fpop1 HF.out HM.out).mono ?_; rintro e1 w1 ⟨rfl, bv1, gs1, n1, cap1, hw1, hf1⟩; clear HW HF c0 c1 c2 c3 c4 c5 c6 cf; have HW := Lib.hid hw1; have HF := Lib.hid hf1; clear hw1 hf1; obtain ⟨c0, c1, c2, c3, c4, c5, c6, cf⟩ := wcell HW.out.blk))
    go_ret
    exact ⟨rfl, _, _, _, _, HW.out, HF.out⟩
  · go_simp
    refine ((HBF.out.dr).bytes (by first | decide | omega | (simp only [List.length_append, data_length, List.length_cons, List.length_nil]; omega))).mono ?_
    rintro e2 w2 ⟨gv, cv, rfl, hnews, hb2⟩
    have HBF2 := Lib.hid hb2
    have HNW := Lib.hid hnews
    clear hb2 hnews
    obtain ⟨f0, f1, f2, f3, f4, f5, f6, ff⟩ := wcell (HW0.out.bel HBF2.out.below).blk
    refine hK.out _ _ (trivial) (fun hHeld => ?_)
    clear hK K
    try simp only [Act.put, List.setIfInBounds_toArray, List.set_cons_zero, List.set_cons_succ]
    refine wpAnyH_ready (rs := [4]) (by kernel_rfl) (by simp) ?_
    refine (AllReadyH.cons rfl (fun K hK => ?_) AllReadyH.nil)
    go_simp
    refine hK.out _ _ (trivial) (fun hHeld => ?_)
    clear hK K
    try simp only [Act.put, List.setIfInBounds_toArray, List.set_cons_zero, List.set_cons_succ]
    refine wpAnyH_ready (rs := [6]) (by kernel_rfl) (by simp) ?_
    refine (AllReadyH.cons rfl (fun K hK => ?_) AllReadyH.nil)
    rw [if_pos (by rfl)]
    refine wp_wr_append HW0.out HF0.out HBF2.out.below _ _ rfl rfl ⟨gv, 0, none⟩ _ _ (TX) rfl rfl HNW.out (by first | decide | omega | (simp only [List.length_append, data_length, List.length_cons, List.length_nil]; omega)) (by first | decide | omega | (simp only [List.length_append, data_length, List.length_cons, List.length_nil]; omega)) ?_
    intro g1 ln1 cp1 w3 hg hw1 hf1
    have HW1 := hw1
    have HF1 := hf1
    obtain ⟨d0, d1, d2, d3, d4, d5, d6, df⟩ := wcell (hg.trans HW0.out.blk)
    clear hw1 hf1 hg
    refine hK.out _ _ (trivial) (fun hHeld => ?_)
    clear hK K
    try simp only [Act.put, List.setIfInBounds_toArray, List.set_cons_zero, List.set_cons_succ]
    refine takeH (i := 7) (some 30) ?vb67 rfl rfl (by kernel_rfl) (by kernel_rfl) (by kernel_rfl) (fun _ _ _ h => h) (by rfl) ?yb68 (by assumption) ?rb69
    case yb68 => intro W hSw; go_simp; all_goals with_reducible rfl
    try simp only [Act.put, List.setIfInBounds_toArray, List.set_cons_zero, List.set_cons_succ]
    refine takeH (i := 8) (some 31) ?vb70 rfl rfl (by kernel_rfl) (by kernel_rfl) (by kernel_rfl) (fun _ _ _ h => h) (by rfl) ?yb71 (by assumption) ?rb72
    case yb71 => intro W hSw; go_simp; all_goals with_reducible rfl
    try simp only [Act.put, List.setIfInBounds_toArray, List.set_cons_zero, List.set_cons_succ]
    refine wpAnyH_ready (rs := [9]) (by kernel_rfl) (by simp) ?_
    refine (AllReadyH.cons rfl (fun K hK => ?_) AllReadyH.nil)
    go_simp
    refine hK.out _ _ (trivial) (fun hHeld => ?_)
    clear hK K
    try simp only [Act.put, List.setIfInBounds_toArray, List.set_cons_zero, List.set_cons_succ]
    refine wpAnyH_done (by kernel_rfl) ?_ _
    refine NoPanic.normal ?_
    generalize w3.setCell ⟨gw, 1, none⟩ (.slice (some ⟨g1, 0, none⟩) ln1 cp1) = W2 at HW1 HF1 ⊢
    clear HW HF c0 c1 c2 c3 c4 c5 c6 cf d0 d1 d2 d3 d4 d5 d6 df f0 f1 f2 f3 f4 f5 f6 ff
    have HW := HW1
    have HF := HF1
    clear HW1 HF1
    obtain ⟨c0, c1, c2, c3, c4, c5, c6, cf⟩ := wcell HW.out.blk
    go_wp2_with (first | (go_at_call 46; refine (HW.out.fpop1 HF.out HM.out).mono ?_; rintro e1 w1 ⟨rfl, bv1, gs1, n1, cap1, hw1, hf1⟩; clear HW HF c0 c1 c2 c3 c4 c5 c6 cf; have HW := Lib.hid hw1; have HF := Lib.hid hf1; clear hw1 hf1; obtain ⟨c0, c1, c2, c3, c4, c5, c6, cf⟩ := wcell HW.out.blk))
    go_ret
    exact ⟨rfl, _, _, _, _, HW.out, HF.out⟩
end

end Go.Proofs.YtpkfdbhpmhahaaaGreatDoor
