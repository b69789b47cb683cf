/- The writer: keys and ends. -/
import Derived.Test.YtpkfdbhpmhahaaaGreatDoorWsg
namespace Go.Proofs.YtpkfdbhpmhahaaaGreatDoor
open Go Go.RowKit
set_option linter.unusedSimpArgs false
set_option linter.unusedVariables false

section
variable {base gw : Nat} {iv : Value} {can : Bool} {bs : List UInt8} {ms0 ms1 : List Int} {m1 m2 m : Int} {pre : List UInt8} {x : UInt8} {bv : Value} {gs n cap : Nat} {w : World}

set_option maxRecDepth 100000 in
set_option maxHeartbeats 4000000 in
theorem Wr.wKey2 (h : Wr base gw iv can bs ms0 2 bv gs n cap w) (hB : 13 ≤ base) (hT : Tabs w) (hbl : bs.length ≤ 800000000) (hd : ms0.length ≤ 700) (s : ByteArray) (l : List UInt8) (hl : l.length ≤ 5000) (hE : EscC s l) (sx : ByteArray) (hTX : (⟨l.toArray⟩ : ByteArray) ++ ⟨#[58]⟩ = sx) (hTl : sx.size ≤ 20000) (hTp : 0 < sx.size) :
    Calls Tryz.prog 24 #[.pointer (some ⟨gw, 0, none⟩), .string s] w (fun e w' => e = .returned (.tuple #[.iface 40 (.pointer (some ⟨gw, 0, none⟩)), .nilIface]) ∧ WF base gw iv can (bs ++ sx.data.toList) (ms0 ++ [2]) 5 gs bv w w') := by
  obtain ⟨c0, c1, c2, c3, c4, c5, c6, cf⟩ := wcell h.blk
  obtain ⟨t0, tf⟩ := h.top
  have hn1 := h.nle
  have kc := fun (W : World) (s : ByteArray) => run_conv_bytes W s
  have HW := Lib.hid h
  have HF := Lib.hid (Fr.refl gw gs bv w)
  have HWS := HW
  have HT := Lib.hid hT
  have HD : Hid (ms0.length ≤ 800) := Lib.hid (by omega)
  have HE := Lib.hid hE
  clear hE
  have HTX := Lib.hid hTX
  clear hTX
  clear h hT hd
  have hf0 : (0 : Int) ≤ (ms0.length : Nat) := by omega
  have hf1 : ((ms0.length : Nat) : Int) < (n : Nat) := by omega
  clear hn1
  go_enter Tryz.func24, Tryz.ntmps24
  go_wp2
  go_quiet (fail)
  have hq := below_dn (Below.refl w.heap.size w) nq
  have hw1 := HW.out.bel hq
  have hf1 := HF.out.bel hq
  generalize w.drewN nq = wq at hw1 hf1 ⊢
  clear HW HF c0 c1 c2 c3 c4 c5 c6 cf t0 tf hq
  have HW := Lib.hid hw1
  have HF := Lib.hid hf1
  clear hw1 hf1
  obtain ⟨c0, c1, c2, c3, c4, c5, c6, cf⟩ := wcell HW.out.blk
  go_upto_region 7 with (fail)
  have HBF := Lib.hid (BSt.fresh (Below.refl wq.heap.size wq))
  generalize hWb : wq.alloc (.cells #[.slice none 0 0, .int .i64 0, .int .i8 0] 39) = Wb at HBF ⊢
  have HW0 := HW
  have HF0 := HF
  have HB13 : Hid (13 ≤ wq.heap.size) := Lib.hid (Nat.le_trans hB HW0.out.lt.2.2.2)
  have hwq := HW0.out.bel HBF.out.below
  have hf1 := HF0.out.bel HBF.out.below
  clear hWb
  clear HW HF c0 c1 c2 c3 c4 c5 c6 cf
  have HW := Lib.hid hwq
  have HF := Lib.hid hf1
  clear hwq hf1
  obtain ⟨c0, c1, c2, c3, c4, c5, c6, cf⟩ := wcell HW.out.blk
  go_upto_region 8 with (first | (go_at_call 39; refine (HE.out _ _ _ _ _ (Tabs.wr HT.out HWS.out HF.out hB) HBF.out (by first | decide | omega | (simp only [List.length_append, data_length, List.length_cons, List.length_nil]; omega)) HB13.out).mono ?_; rintro e1 w2 ⟨rfl, hb2⟩; clear HBF; have HBF := Lib.hid hb2; clear hb2; have hw1 := HW0.out.bel HBF.out.below; have hf1 := HF0.out.bel HBF.out.below; clear HW HF c0 c1 c2 c3 c4 c5 c6 cf; have HW := Lib.hid hw1; have HF := Lib.hid hf1; clear hw1 hf1; obtain ⟨c0, c1, c2, c3, c4, c5, c6, cf⟩ := wcell HW.out.blk))
  refine wp_region_noPanic ?_
  refine wp_region_held_drew (S := fun _ => True) (by kernel_rfl) (trivial) (fun hHeld => ?_)
  refine takeH (i := 0) (some 31) ?vq1 rfl rfl (by kernel_rfl) (by kernel_rfl) (by kernel_rfl) (fun _ _ _ h => h) (by rfl) ?yq2 (by assumption) ?rq3
  case yq2 => intro W hSw; go_simp; all_goals with_reducible rfl
  try simp only [Act.put, List.setIfInBounds_toArray, List.set_cons_zero, List.set_cons_succ]
  refine takeH (i := 1) (some 32) ?vq4 rfl rfl (by kernel_rfl) (by kernel_rfl) (by kernel_rfl) (fun _ _ _ h => h) (by rfl) ?yq5 (by assumption) ?rq6
  case yq5 => intro W hSw; go_simp; all_goals with_reducible rfl
  try simp only [Act.put, List.setIfInBounds_toArray, List.set_cons_zero, List.set_cons_succ]
  refine takeH (i := 2) (some 33) ?vq7 rfl rfl (by kernel_rfl) (by kernel_rfl) (by kernel_rfl) (fun _ _ _ h => h) (by rfl) ?yq8 (by assumption) ?rq9
  case yq8 => intro W hSw; go_simp; all_goals with_reducible rfl
  try simp only [Act.put, List.setIfInBounds_toArray, List.set_cons_zero, List.set_cons_succ]
  refine takeH (i := 3) (some 34) ?vq10 rfl rfl (by kernel_rfl) (by kernel_rfl) (by kernel_rfl) (fun _ _ _ h => h) (by rfl) ?yq11 (by assumption) ?rq12
  case yq11 => intro W hSw; go_simp; all_goals with_reducible rfl
  try simp only [Act.put, List.setIfInBounds_toArray, List.set_cons_zero, List.set_cons_succ]
  refine wpAnyH_ready (rs := [4, 5]) (by kernel_rfl) (by simp) ?_
  refine (AllReadyH.cons rfl (fun K hK => ?_) (AllReadyH.cons rfl (fun K hK => ?_) AllReadyH.nil))
  · go_simp
    refine hK.out _ _ (trivial) (fun hHeld => ?_)
    clear hK K
    try simp only [Act.put, List.setIfInBounds_toArray, List.set_cons_zero, List.set_cons_succ]
    refine wpAnyH_ready (rs := [5]) (by kernel_rfl) (by simp) ?_
    refine (AllReadyH.cons rfl (fun K hK => ?_) AllReadyH.nil)
    go_simp
    refine (HBF.out.dr.string).mono ?_
    rintro e2 w2 ⟨rfl, hb2⟩
    have HBF2 := Lib.hid hb2
    clear hb2
    obtain ⟨f0, f1, f2, f3, f4, f5, f6, ff⟩ := wcell (HW0.out.bel HBF2.out.below).blk
    obtain ⟨k0, k1, k2, k3, k4, k5, k6, kf⟩ := wcell (HW0.out.bel (HBF2.out.below.trans ((bytes_below _ sx).mono HBF2.out.size))).blk
    refine hK.out _ _ (trivial) (fun hHeld => ?_)
    clear hK K
    try simp only [Act.put, List.setIfInBounds_toArray, List.set_cons_zero, List.set_cons_succ]
    refine takeH (i := 6) (some 37) (.string sx) rfl rfl (by kernel_rfl) (by kernel_rfl) (by kernel_rfl) (fun _ _ _ h => h) (by rfl) (fun W hSw => by go_simp; first | (rw [if_neg (by omega), HTX.out]) | exact ⟨by omega, HTX.out⟩ | exact ⟨HTX.out, by omega⟩ | (rw [HTX.out]; omega)) (by assumption) ?_
    try simp only [Act.put, List.setIfInBounds_toArray, List.set_cons_zero, List.set_cons_succ]
    refine wpAnyH_ready (rs := [7]) (by kernel_rfl) (by simp) ?_
    refine (AllReadyH.cons rfl (fun K hK => ?_) AllReadyH.nil)
    go_simp
    refine hK.out _ _ (trivial) (fun hHeld => ?_)
    clear hK K
    try simp only [Act.put, List.setIfInBounds_toArray, List.set_cons_zero, List.set_cons_succ]
    refine wpAnyH_ready (rs := [8]) (by kernel_rfl) (by simp) ?_
    refine (AllReadyH.cons rfl (fun K hK => ?_) AllReadyH.nil)
    rw [if_pos (by rfl)]
    refine wp_wr_append HW0.out HF0.out (HBF2.out.below.trans ((bytes_below _ sx).mono HBF2.out.size)) _ _ rfl rfl ⟨_, 0, none⟩ _ _ sx.data.toList rfl (data_length _) (news_str _ _) (by rw [data_length]; omega) (by rw [data_length]; omega) ?_
    intro g1 ln1 cp1 w3 hg hw1 hf1
    have HW1 := hw1
    have HF1 := hf1
    obtain ⟨d0, d1, d2, d3, d4, d5, d6, df⟩ := wcell (hg.trans HW0.out.blk)
    clear hw1 hf1 hg
    refine hK.out _ _ (trivial) (fun hHeld => ?_)
    clear hK K
    try simp only [Act.put, List.setIfInBounds_toArray, List.set_cons_zero, List.set_cons_succ]
    refine takeH (i := 9) (some 40) ?vq13 rfl rfl (by kernel_rfl) (by kernel_rfl) (by kernel_rfl) (fun _ _ _ h => h) (by rfl) ?yq14 (by assumption) ?rq15
    case yq14 => intro W hSw; go_simp; all_goals with_reducible rfl
    try simp only [Act.put, List.setIfInBounds_toArray, List.set_cons_zero, List.set_cons_succ]
    refine takeH (i := 10) (some 41) ?vq16 rfl rfl (by kernel_rfl) (by kernel_rfl) (by kernel_rfl) (fun _ _ _ h => h) (by rfl) ?yq17 (by assumption) ?rq18
    case yq17 => intro W hSw; go_simp; all_goals with_reducible rfl
    try simp only [Act.put, List.setIfInBounds_toArray, List.set_cons_zero, List.set_cons_succ]
    refine wpAnyH_ready (rs := [11]) (by kernel_rfl) (by simp) ?_
    refine (AllReadyH.cons rfl (fun K hK => ?_) AllReadyH.nil)
    go_simp
    refine hK.out _ _ (trivial) (fun hHeld => ?_)
    clear hK K
    try simp only [Act.put, List.setIfInBounds_toArray, List.set_cons_zero, List.set_cons_succ]
    refine wpAnyH_done (by kernel_rfl) ?_ _
    refine NoPanic.normal ?_
    generalize w3.setCell ⟨gw, 1, none⟩ (.slice (some ⟨g1, 0, none⟩) ln1 cp1) = W2 at HW1 HF1 ⊢
    clear HW HF c0 c1 c2 c3 c4 c5 c6 cf d0 d1 d2 d3 d4 d5 d6 df f0 f1 f2 f3 f4 f5 f6 ff k0 k1 k2 k3 k4 k5 k6 kf
    have HW := HW1
    have HF := HF1
    clear HW1 HF1
    obtain ⟨c0, c1, c2, c3, c4, c5, c6, cf⟩ := wcell HW.out.blk
    go_wp2_with (first | (go_at_call 23; refine (HW.out.fpush HF.out HD.out _).mono ?_; rintro e1 w1 ⟨rfl, bv1, gs1, n1, cap1, hw1, hf1⟩; clear HW HF c0 c1 c2 c3 c4 c5 c6 cf; have HW := Lib.hid hw1; have HF := Lib.hid hf1; clear hw1 hf1; obtain ⟨c0, c1, c2, c3, c4, c5, c6, cf⟩ := wcell HW.out.blk))
    go_ret2
    exact ⟨rfl, _, _, _, _, HW.out, HF.out⟩
  · go_simp
    refine (HBF.out.dr.string).mono ?_
    rintro e2 w2 ⟨rfl, hb2⟩
    have HBF2 := Lib.hid hb2
    clear hb2
    obtain ⟨f0, f1, f2, f3, f4, f5, f6, ff⟩ := wcell (HW0.out.bel HBF2.out.below).blk
    obtain ⟨k0, k1, k2, k3, k4, k5, k6, kf⟩ := wcell (HW0.out.bel (HBF2.out.below.trans ((bytes_below _ sx).mono HBF2.out.size))).blk
    refine hK.out _ _ (trivial) (fun hHeld => ?_)
    clear hK K
    try simp only [Act.put, List.setIfInBounds_toArray, List.set_cons_zero, List.set_cons_succ]
    refine takeH (i := 6) (some 37) (.string sx) rfl rfl (by kernel_rfl) (by kernel_rfl) (by kernel_rfl) (fun _ _ _ h => h) (by rfl) (fun W hSw => by go_simp; first | (rw [if_neg (by omega), HTX.out]) | exact ⟨by omega, HTX.out⟩ | exact ⟨HTX.out, by omega⟩ | (rw [HTX.out]; omega)) (by assumption) ?_
    try simp only [Act.put, List.setIfInBounds_toArray, List.set_cons_zero, List.set_cons_succ]
    refine wpAnyH_ready (rs := [4, 7]) (by kernel_rfl) (by simp) ?_
    refine (AllReadyH.cons rfl (fun K hK => ?_) (AllReadyH.cons rfl (fun K hK => ?_) AllReadyH.nil))
    · go_simp
      refine hK.out _ _ (trivial) (fun hHeld => ?_)
      clear hK K
      try simp only [Act.put, List.setIfInBounds_toArray, List.set_cons_zero, List.set_cons_succ]
      refine wpAnyH_ready (rs := [7]) (by kernel_rfl) (by simp) ?_
      refine (AllReadyH.cons rfl (fun K hK => ?_) AllReadyH.nil)
      go_simp
      refine hK.out _ _ (trivial) (fun hHeld => ?_)
      clear hK K
      try simp only [Act.put, List.setIfInBounds_toArray, List.set_cons_zero, List.set_cons_succ]
      refine wpAnyH_ready (rs := [8]) (by kernel_rfl) (by simp) ?_
      refine (AllReadyH.cons rfl (fun K hK => ?_) AllReadyH.nil)
      rw [if_pos (by rfl)]
      refine wp_wr_append HW0.out HF0.out (HBF2.out.below.trans ((bytes_below _ sx).mono HBF2.out.size)) _ _ rfl rfl ⟨_, 0, none⟩ _ _ sx.data.toList rfl (data_length _) (news_str _ _) (by rw [data_length]; omega) (by rw [data_length]; omega) ?_
      intro g1 ln1 cp1 w3 hg hw1 hf1
      have HW1 := hw1
      have HF1 := hf1
      obtain ⟨d0, d1, d2, d3, d4, d5, d6, df⟩ := wcell (hg.trans HW0.out.blk)
      clear hw1 hf1 hg
      refine hK.out _ _ (trivial) (fun hHeld => ?_)
      clear hK K
      try simp only [Act.put, List.setIfInBounds_toArray, List.set_cons_zero, List.set_cons_succ]
      refine takeH (i := 9) (some 40) ?vq19 rfl rfl (by kernel_rfl) (by kernel_rfl) (by kernel_rfl) (fun _ _ _ h => h) (by rfl) ?yq20 (by assumption) ?rq21
      case yq20 => intro W hSw; go_simp; all_goals with_reducible rfl
      try simp only [Act.put, List.setIfInBounds_toArray, List.set_cons_zero, List.set_cons_succ]
      refine takeH (i := 10) (some 41) ?vq22 rfl rfl (by kernel_rfl) (by kernel_rfl) (by kernel_rfl) (fun _ _ _ h => h) (by rfl) ?yq23 (by assumption) ?rq24
      case yq23 => intro W hSw; go_simp; all_goals with_reducible rfl
      try simp only [Act.put, List.setIfInBounds_toArray, List.set_cons_zero, List.set_cons_succ]
      refine wpAnyH_ready (rs := [11]) (by kernel_rfl) (by simp) ?_
      refine (AllReadyH.cons rfl (fun K hK => ?_) AllReadyH.nil)
      go_simp
      refine hK.out _ _ (trivial) (fun hHeld => ?_)
      clear hK K
      try simp only [Act.put, List.setIfInBounds_toArray, List.set_cons_zero, List.set_cons_succ]
      refine wpAnyH_done (by kernel_rfl) ?_ _
      refine NoPanic.normal ?_
      generalize w3.setCell ⟨gw, 1, none⟩ (.slice (some ⟨g1, 0, none⟩) ln1 cp1) = W2 at HW1 HF1 ⊢
      clear HW HF c0 c1 c2 c3 c4 c5 c6 cf d0 d1 d2 d3 d4 d5 d6 df f0 f1 f2 f3 f4 f5 f6 ff k0 k1 k2 k3 k4 k5 k6 kf
      have HW := HW1
      have HF := HF1
      clear HW1 HF1
      obtain ⟨c0, c1, c2, c3, c4, c5, c6, cf⟩ := wcell HW.out.blk
      go_wp2_with (first | (go_at_call 23; refine (HW.out.fpush HF.out HD.out _).mono ?_; rintro e1 w1 ⟨rfl, bv1, gs1, n1, cap1, hw1, hf1⟩; clear HW HF c0 c1 c2 c3 c4 c5 c6 cf; have HW := Lib.hid hw1; have HF := Lib.hid hf1; clear hw1 hf1; obtain ⟨c0, c1, c2, c3, c4, c5, c6, cf⟩ := wcell HW.out.blk))
      go_ret2
      exact ⟨rfl, _, _, _, _, HW.out, HF.out⟩
    · go_simp
      refine hK.out _ _ (trivial) (fun hHeld => ?_)
      clear hK K
      try simp only [Act.put, List.setIfInBounds_toArray, List.set_cons_zero, List.set_cons_succ]
      refine wpAnyH_ready (rs := [4]) (by kernel_rfl) (by simp) ?_
      refine (AllReadyH.cons rfl (fun K hK => ?_) AllReadyH.nil)
      go_simp
      refine hK.out _ _ (trivial) (fun hHeld => ?_)
      clear hK K
      try simp only [Act.put, List.setIfInBounds_toArray, List.set_cons_zero, List.set_cons_succ]
      refine wpAnyH_ready (rs := [8]) (by kernel_rfl) (by simp) ?_
      refine (AllReadyH.cons rfl (fun K hK => ?_) AllReadyH.nil)
      rw [if_pos (by rfl)]
      refine wp_wr_append HW0.out HF0.out (HBF2.out.below.trans ((bytes_below _ sx).mono HBF2.out.size)) _ _ rfl rfl ⟨_, 0, none⟩ _ _ sx.data.toList rfl (data_length _) (news_str _ _) (by rw [data_length]; omega) (by rw [data_length]; omega) ?_
      intro g1 ln1 cp1 w3 hg hw1 hf1
      have HW1 := hw1
      have HF1 := hf1
      obtain ⟨d0, d1, d2, d3, d4, d5, d6, df⟩ := wcell (hg.trans HW0.out.blk)
      clear hw1 hf1 hg
      refine hK.out _ _ (trivial) (fun hHeld => ?_)
      clear hK K
      try simp only [Act.put, List.setIfInBounds_toArray, List.set_cons_zero, List.set_cons_succ]
      refine takeH (i := 9) (some 40) ?vq25 rfl rfl (by kernel_rfl) (by kernel_rfl) (by kernel_rfl) (fun _ _ _ h => h) (by rfl) ?yq26 (by assumption) ?rq27
      case yq26 => intro W hSw; go_simp; all_goals with_reducible rfl
      try simp only [Act.put, List.setIfInBounds_toArray, List.set_cons_zero, List.set_cons_succ]
      refine takeH (i := 10) (some 41) ?vq28 rfl rfl (by kernel_rfl) (by kernel_rfl) (by kernel_rfl) (fun _ _ _ h => h) (by rfl) ?yq29 (by assumption) ?rq30
      case yq29 => intro W hSw; go_simp; all_goals with_reducible rfl
      try simp only [Act.put, List.setIfInBounds_toArray, List.set_cons_zero, List.set_cons_succ]
      refine wpAnyH_ready (rs := [11]) (by kernel_rfl) (by simp) ?_
      refine (AllReadyH.cons rfl (fun K hK => ?_) AllReadyH.nil)
      go_simp
      refine hK.out _ _ (trivial) (fun hHeld => ?_)
      clear hK K
      try simp only [Act.put, List.setIfInBounds_toArray, List.set_cons_zero, List.set_cons_succ]
      refine wpAnyH_done (by kernel_rfl) ?_ _
      refine NoPanic.normal ?_
      generalize w3.setCell ⟨gw, 1, none⟩ (.slice (some ⟨g1, 0, none⟩) ln1 cp1) = W2 at HW1 HF1 ⊢
      clear HW HF c0 c1 c2 c3 c4 c5 c6 cf d0 d1 d2 d3 d4 d5 d6 df f0 f1 f2 f3 f4 f5 f6 ff k0 k1 k2 k3 k4 k5 k6 kf
      have HW := HW1
      have HF := HF1
      clear HW1 HF1
      obtain ⟨c0, c1, c2, c3, c4, c5, c6, cf⟩ := wcell HW.out.blk
      go_wp2_with (first | (go_at_call 23; refine (HW.out.fpush HF.out HD.out _).mono ?_; rintro e1 w1 ⟨rfl, bv1, gs1, n1, cap1, hw1, hf1⟩; clear HW HF c0 c1 c2 c3 c4 c5 c6 cf; have HW := Lib.hid hw1; have HF := Lib.hid hf1; clear hw1 hf1; obtain ⟨c0, c1, c2, c3, c4, c5, c6, cf⟩ := wcell HW.out.blk))
      go_ret2
      exact ⟨rfl, _, _, _, _, HW.out, HF.out⟩

set_option maxRecDepth 100000 in
set_option maxHeartbeats 4000000 in
theorem Wr.wKey1 (h : Wr base gw iv can bs ms0 1 bv gs n cap w) (hB : 13 ≤ base) (hT : Tabs w) (hbl : bs.length ≤ 800000000) (hd : ms0.length ≤ 700) (s : ByteArray) (l : List UInt8) (hl : l.length ≤ 5000) (hE : EscC s l) (sx : ByteArray) (hTX : (⟨l.toArray⟩ : ByteArray) ++ ⟨#[58]⟩ = sx) (hTl : sx.size ≤ 20000) (hTp : 0 < sx.size) :
    Calls Tryz.prog 24 #[.pointer (some ⟨gw, 0, none⟩), .string s] w (fun e w' => e = .returned (.tuple #[.iface 40 (.pointer (some ⟨gw, 0, none⟩)), .nilIface]) ∧ WF base gw iv can (bs ++ sx.data.toList) (ms0 ++ [1]) 5 gs bv w w') := by
  obtain ⟨c0, c1, c2, c3, c4, c5, c6, cf⟩ := wcell h.blk
  obtain ⟨t0, tf⟩ := h.top
  have hn1 := h.nle
  have kc := fun (W : World) (s : ByteArray) => run_conv_bytes W s
  have HW := Lib.hid h
  have HF := Lib.hid (Fr.refl gw gs bv w)
  have HWS := HW
  have HT := Lib.hid hT
  have HD : Hid (ms0.length ≤ 800) := Lib.hid (by omega)
  have HE := Lib.hid hE
  clear hE
  have HTX := Lib.hid hTX
  clear hTX
  clear h hT hd
  have hf0 : (0 : Int) ≤ (ms0.length : Nat) := by omega
  have hf1 : ((ms0.length : Nat) : Int) < (n : Nat) := by omega
  clear hn1
  go_enter Tryz.func24, Tryz.ntmps24
  go_wp2
  go_quiet (fail)
  have hq := below_dn (Below.refl w.heap.size w) nq
  have hw1 := HW.out.bel hq
  have hf1 := HF.out.bel hq
  generalize w.drewN nq = wq at hw1 hf1 ⊢
  clear HW HF c0 c1 c2 c3 c4 c5 c6 cf t0 tf hq
  have HW := Lib.hid hw1
  have HF := Lib.hid hf1
  clear hw1 hf1
  obtain ⟨c0, c1, c2, c3, c4, c5, c6, cf⟩ := wcell HW.out.blk
  go_upto_region 7 with (fail)
  have HBF := Lib.hid (BSt.fresh (Below.refl wq.heap.size wq))
  generalize hWb : wq.alloc (.cells #[.slice none 0 0, .int .i64 0, .int .i8 0] 39) = Wb at HBF ⊢
  have HW0 := HW
  have HF0 := HF
  have HB13 : Hid (13 ≤ wq.heap.size) := Lib.hid (Nat.le_trans hB HW0.out.lt.2.2.2)
  have hwq := HW0.out.bel HBF.out.below
  have hf1 := HF0.out.bel HBF.out.below
  clear hWb
  clear HW HF c0 c1 c2 c3 c4 c5 c6 cf
  have HW := Lib.hid hwq
  have HF := Lib.hid hf1
  clear hwq hf1
  obtain ⟨c0, c1, c2, c3, c4, c5, c6, cf⟩ := wcell HW.out.blk
  go_upto_region 8 with (first | (go_at_call 39; refine (HE.out _ _ _ _ _ (Tabs.wr HT.out HWS.out HF.out hB) HBF.out (by first | decide | omega | (simp only [List.length_append, data_length, List.length_cons, List.length_nil]; omega)) HB13.out).mono ?_; rintro e1 w2 ⟨rfl, hb2⟩; clear HBF; have HBF := Lib.hid hb2; clear hb2; have hw1 := HW0.out.bel HBF.out.below; have hf1 := HF0.out.bel HBF.out.below; clear HW HF c0 c1 c2 c3 c4 c5 c6 cf; have HW := Lib.hid hw1; have HF := Lib.hid hf1; clear hw1 hf1; obtain ⟨c0, c1, c2, c3, c4, c5, c6, cf⟩ := wcell HW.out.blk))
  refine wp_region_noPanic ?_
  refine wp_region_held_drew (S := fun _ => True) (by kernel_rfl) (trivial) (fun hHeld => ?_)
  refine takeH (i := 0) (some 31) ?vq1 rfl rfl (by kernel_rfl) (by kernel_rfl) (by kernel_rfl) (fun _ _ _ h => h) (by rfl) ?yq2 (by assumption) ?rq3
  case yq2 => intro W hSw; go_simp; all_goals with_reducible rfl
  try simp only [Act.put, List.setIfInBounds_toArray, List.set_cons_zero, List.set_cons_succ]
  refine takeH (i := 1) (some 32) ?vq4 rfl rfl (by kernel_rfl) (by kernel_rfl) (by kernel_rfl) (fun _ _ _ h => h) (by rfl) ?yq5 (by assumption) ?rq6
  case yq5 => intro W hSw; go_simp; all_goals with_reducible rfl
  try simp only [Act.put, List.setIfInBounds_toArray, List.set_cons_zero, List.set_cons_succ]
  refine takeH (i := 2) (some 33) ?vq7 rfl rfl (by kernel_rfl) (by kernel_rfl) (by kernel_rfl) (fun _ _ _ h => h) (by rfl) ?yq8 (by assumption) ?rq9
  case yq8 => intro W hSw; go_simp; all_goals with_reducible rfl
  try simp only [Act.put, List.setIfInBounds_toArray, List.set_cons_zero, List.set_cons_succ]
  refine takeH (i := 3) (some 34) ?vq10 rfl rfl (by kernel_rfl) (by kernel_rfl) (by kernel_rfl) (fun _ _ _ h => h) (by rfl) ?yq11 (by assumption) ?rq12
  case yq11 => intro W hSw; go_simp; all_goals with_reducible rfl
  try simp only [Act.put, List.setIfInBounds_toArray, List.set_cons_zero, List.set_cons_succ]
  refine wpAnyH_ready (rs := [4, 5]) (by kernel_rfl) (by simp) ?_
  refine (AllReadyH.cons rfl (fun K hK => ?_) (AllReadyH.cons rfl (fun K hK => ?_) AllReadyH.nil))
  · go_simp
    refine hK.out _ _ (trivial) (fun hHeld => ?_)
    clear hK K
    try simp only [Act.put, List.setIfInBounds_toArray, List.set_cons_zero, List.set_cons_succ]
    refine wpAnyH_ready (rs := [5]) (by kernel_rfl) (by simp) ?_
    refine (AllReadyH.cons rfl (fun K hK => ?_) AllReadyH.nil)
    go_simp
    refine (HBF.out.dr.string).mono ?_
    rintro e2 w2 ⟨rfl, hb2⟩
    have HBF2 := Lib.hid hb2
    clear hb2
    obtain ⟨f0, f1, f2, f3, f4, f5, f6, ff⟩ := wcell (HW0.out.bel HBF2.out.below).blk
    obtain ⟨k0, k1, k2, k3, k4, k5, k6, kf⟩ := wcell (HW0.out.bel (HBF2.out.below.trans ((bytes_below _ sx).mono HBF2.out.size))).blk
    refine hK.out _ _ (trivial) (fun hHeld => ?_)
    clear hK K
    try simp only [Act.put, List.setIfInBounds_toArray, List.set_cons_zero, List.set_cons_succ]
    refine takeH (i := 6) (some 37) (.string sx) rfl rfl (by kernel_rfl) (by kernel_rfl) (by kernel_rfl) (fun _ _ _ h => h) (by rfl) (fun W hSw => by go_simp; first | (rw [if_neg (by omega), HTX.out]) | exact ⟨by omega, HTX.out⟩ | exact ⟨HTX.out, by omega⟩ | (rw [HTX.out]; omega)) (by assumption) ?_
    try simp only [Act.put, List.setIfInBounds_toArray, List.set_cons_zero, List.set_cons_succ]
    refine wpAnyH_ready (rs := [7]) (by kernel_rfl) (by simp) ?_
    refine (AllReadyH.cons rfl (fun K hK => ?_) AllReadyH.nil)
    go_simp
    refine hK.out _ _ (trivial) (fun hHeld => ?_)
    clear hK K
    try simp only [Act.put, List.setIfInBounds_toArray, List.set_cons_zero, List.set_cons_succ]
    refine wpAnyH_ready (rs := [8]) (by kernel_rfl) (by simp) ?_
    refine (AllReadyH.cons rfl (fun K hK => ?_) AllReadyH.nil)
    rw [if_pos (by rfl)]
    refine wp_wr_append HW0.out HF0.out (HBF2.out.below.trans ((bytes_below _ sx).mono HBF2.out.size)) _ _ rfl rfl ⟨_, 0, none⟩ _ _ sx.data.toList rfl (data_length _) (news_str _ _) (by rw [data_length]; omega) (by rw [data_length]; omega) ?_
    intro g1 ln1 cp1 w3 hg hw1 hf1
    have HW1 := hw1
    have HF1 := hf1
    obtain ⟨d0, d1, d2, d3, d4, d5, d6, df⟩ := wcell (hg.trans HW0.out.blk)
    clear hw1 hf1 hg
    refine hK.out _ _ (trivial) (fun hHeld => ?_)
    clear hK K
    try simp only [Act.put, List.setIfInBounds_toArray, List.set_cons_zero, List.set_cons_succ]
    refine takeH (i := 9) (some 40) ?vq13 rfl rfl (by kernel_rfl) (by kernel_rfl) (by kernel_rfl) (fun _ _ _ h => h) (by rfl) ?yq14 (by assumption) ?rq15
    case yq14 => intro W hSw; go_simp; all_goals with_reducible rfl
    try simp only [Act.put, List.setIfInBounds_toArray, List.set_cons_zero, List.set_cons_succ]
    refine takeH (i := 10) (some 41) ?vq16 rfl rfl (by kernel_rfl) (by kernel_rfl) (by kernel_rfl) (fun _ _ _ h => h) (by rfl) ?yq17 (by assumption) ?rq18
    case yq17 => intro W hSw; go_simp; all_goals with_reducible rfl
    try simp only [Act.put, List.setIfInBounds_toArray, List.set_cons_zero, List.set_cons_succ]
    refine wpAnyH_ready (rs := [11]) (by kernel_rfl) (by simp) ?_
    refine (AllReadyH.cons rfl (fun K hK => ?_) AllReadyH.nil)
    go_simp
    refine hK.out _ _ (trivial) (fun hHeld => ?_)
    clear hK K
    try simp only [Act.put, List.setIfInBounds_toArray, List.set_cons_zero, List.set_cons_succ]
    refine wpAnyH_done (by kernel_rfl) ?_ _
    refine NoPanic.normal ?_
    generalize w3.setCell ⟨gw, 1, none⟩ (.slice (some ⟨g1, 0, none⟩) ln1 cp1) = W2 at HW1 HF1 ⊢
    clear HW HF c0 c1 c2 c3 c4 c5 c6 cf d0 d1 d2 d3 d4 d5 d6 df f0 f1 f2 f3 f4 f5 f6 ff k0 k1 k2 k3 k4 k5 k6 kf
    have HW := HW1
    have HF := HF1
    clear HW1 HF1
    obtain ⟨c0, c1, c2, c3, c4, c5, c6, cf⟩ := wcell HW.out.blk
    go_wp2_with (first | (go_at_call 23; refine (HW.out.fpush HF.out HD.out _).mono ?_; rintro e1 w1 ⟨rfl, bv1, gs1, n1, cap1, hw1, hf1⟩; clear HW HF c0 c1 c2 c3 c4 c5 c6 cf; have HW := Lib.hid hw1; have HF := Lib.hid hf1; clear hw1 hf1; obtain ⟨c0, c1, c2, c3, c4, c5, c6, cf⟩ := wcell HW.out.blk))
    go_ret2
    exact ⟨rfl, _, _, _, _, HW.out, HF.out⟩
  · go_simp
    refine (HBF.out.dr.string).mono ?_
    rintro e2 w2 ⟨rfl, hb2⟩
    have HBF2 := Lib.hid hb2
    clear hb2
    obtain ⟨f0, f1, f2, f3, f4, f5, f6, ff⟩ := wcell (HW0.out.bel HBF2.out.below).blk
    obtain ⟨k0, k1, k2, k3, k4, k5, k6, kf⟩ := wcell (HW0.out.bel (HBF2.out.below.trans ((bytes_below _ sx).mono HBF2.out.size))).blk
    refine hK.out _ _ (trivial) (fun hHeld => ?_)
    clear hK K
    try simp only [Act.put, List.setIfInBounds_toArray, List.set_cons_zero, List.set_cons_succ]
    refine takeH (i := 6) (some 37) (.string sx) rfl rfl (by kernel_rfl) (by kernel_rfl) (by kernel_rfl) (fun _ _ _ h => h) (by rfl) (fun W hSw => by go_simp; first | (rw [if_neg (by omega), HTX.out]) | exact ⟨by omega, HTX.out⟩ | exact ⟨HTX.out, by omega⟩ | (rw [HTX.out]; omega)) (by assumption) ?_
    try simp only [Act.put, List.setIfInBounds_toArray, List.set_cons_zero, List.set_cons_succ]
    refine wpAnyH_ready (rs := [4, 7]) (by kernel_rfl) (by simp) ?_
    refine (AllReadyH.cons rfl (fun K hK => ?_) (AllReadyH.cons rfl (fun K hK => ?_) AllReadyH.nil))
    · go_simp
      refine hK.out _ _ (trivial) (fun hHeld => ?_)
      clear hK K
      try simp only [Act.put, List.setIfInBounds_toArray, List.set_cons_zero, List.set_cons_succ]
      refine wpAnyH_ready (rs := [7]) (by kernel_rfl) (by simp) ?_
      refine (AllReadyH.cons rfl (fun K hK => ?_) AllReadyH.nil)
      go_simp
      refine hK.out _ _ (trivial) (fun hHeld => ?_)
      clear hK K
      try simp only [Act.put, List.setIfInBounds_toArray, List.set_cons_zero, List.set_cons_succ]
      refine wpAnyH_ready (rs := [8]) (by kernel_rfl) (by simp) ?_
      refine (AllReadyH.cons rfl (fun K hK => ?_) AllReadyH.nil)
      rw [if_pos (by rfl)]
      refine wp_wr_append HW0.out HF0.out (HBF2.out.below.trans ((bytes_below _ sx).mono HBF2.out.size)) _ _ rfl rfl ⟨_, 0, none⟩ _ _ sx.data.toList rfl (data_length _) (news_str _ _) (by rw [data_length]; omega) (by rw [data_length]; omega) ?_
      intro g1 ln1 cp1 w3 hg hw1 hf1
      have HW1 := hw1
      have HF1 := hf1
      obtain ⟨d0, d1, d2, d3, d4, d5, d6, df⟩ := wcell (hg.trans HW0.out.blk)
      clear hw1 hf1 hg
      refine hK.out _ _ (trivial) (fun hHeld => ?_)
      clear hK K
      try simp only [Act.put, List.setIfInBounds_toArray, List.set_cons_zero, List.set_cons_succ]
      refine takeH (i := 9) (some 40) ?vq19 rfl rfl (by kernel_rfl) (by kernel_rfl) (by kernel_rfl) (fun _ _ _ h => h) (by rfl) ?yq20 (by assumption) ?rq21
      case yq20 => intro W hSw; go_simp; all_goals with_reducible rfl
      try simp only [Act.put, List.setIfInBounds_toArray, List.set_cons_zero, List.set_cons_succ]
      refine takeH (i := 10) (some 41) ?vq22 rfl rfl (by kernel_rfl) (by kernel_rfl) (by kernel_rfl) (fun _ _ _ h => h) (by rfl) ?yq23 (by assumption) ?rq24
      case yq23 => intro W hSw; go_simp; all_goals with_reducible rfl
      try simp only [Act.put, List.setIfInBounds_toArray, List.set_cons_zero, List.set_cons_succ]
      refine wpAnyH_ready (rs := [11]) (by kernel_rfl) (by simp) ?_
      refine (AllReadyH.cons rfl (fun K hK => ?_) AllReadyH.nil)
      go_simp
      refine hK.out _ _ (trivial) (fun hHeld => ?_)
      clear hK K
      try simp only [Act.put, List.setIfInBounds_toArray, List.set_cons_zero, List.set_cons_succ]
      refine wpAnyH_done (by kernel_rfl) ?_ _
      refine NoPanic.normal ?_
      generalize w3.setCell ⟨gw, 1, none⟩ (.slice (some ⟨g1, 0, none⟩) ln1 cp1) = W2 at HW1 HF1 ⊢
      clear HW HF c0 c1 c2 c3 c4 c5 c6 cf d0 d1 d2 d3 d4 d5 d6 df f0 f1 f2 f3 f4 f5 f6 ff k0 k1 k2 k3 k4 k5 k6 kf
      have HW := HW1
      have HF := HF1
      clear HW1 HF1
      obtain ⟨c0, c1, c2, c3, c4, c5, c6, cf⟩ := wcell HW.out.blk
      go_wp2_with (first | (go_at_call 23; refine (HW.out.fpush HF.out HD.out _).mono ?_; rintro e1 w1 ⟨rfl, bv1, gs1, n1, cap1, hw1, hf1⟩; clear HW HF c0 c1 c2 c3 c4 c5 c6 cf; have HW := Lib.hid hw1; have HF := Lib.hid hf1; clear hw1 hf1; obtain ⟨c0, c1, c2, c3, c4, c5, c6, cf⟩ := wcell HW.out.blk))
      go_ret2
      exact ⟨rfl, _, _, _, _, HW.out, HF.out⟩
    · go_simp
      refine hK.out _ _ (trivial) (fun hHeld => ?_)
      clear hK K
      try simp only [Act.put, List.setIfInBounds_toArray, List.set_cons_zero, List.set_cons_succ]
      refine wpAnyH_ready (rs := [4]) (by kernel_rfl) (by simp) ?_
      refine (AllReadyH.cons rfl (fun K hK => ?_) AllReadyH.nil)
      go_simp
      refine hK.out _ _ (trivial) (fun hHeld => ?_)
      clear hK K
      try simp only [Act.put, List.setIfInBounds_toArray, List.set_cons_zero, List.set_cons_succ]
      refine wpAnyH_ready (rs := [8]) (by kernel_rfl) (by simp) ?_
      refine (AllReadyH.cons rfl (fun K hK => ?_) AllReadyH.nil)
      rw [if_pos (by rfl)]
      refine wp_wr_append HW0.out HF0.out (HBF2.out.below.trans ((bytes_below _ sx).mono HBF2.out.size)) _ _ rfl rfl ⟨_, 0, none⟩ _ _ sx.data.toList rfl (data_length _) (news_str _ _) (by rw [data_length]; omega) (by rw [data_length]; omega) ?_
      intro g1 ln1 cp1 w3 hg hw1 hf1
      have HW1 := hw1
      have HF1 := hf1
      obtain ⟨d0, d1, d2, d3, d4, d5, d6, df⟩ := wcell (hg.trans HW0.out.blk)
      clear hw1 hf1 hg
      refine hK.out _ _ (trivial) (fun hHeld => ?_)
      clear hK K
      try simp only [Act.put, List.setIfInBounds_toArray, List.set_cons_zero, List.set_cons_succ]
      refine takeH (i := 9) (some 40) ?vq25 rfl rfl (by kernel_rfl) (by kernel_rfl) (by kernel_rfl) (fun _ _ _ h => h) (by rfl) ?yq26 (by assumption) ?rq27
      case yq26 => intro W hSw; go_simp; all_goals with_reducible rfl
      try simp only [Act.put, List.setIfInBounds_toArray, List.set_cons_zero, List.set_cons_succ]
      refine takeH (i := 10) (some 41) ?vq28 rfl rfl (by kernel_rfl) (by kernel_rfl) (by kernel_rfl) (fun _ _ _ h => h) (by rfl) ?yq29 (by assumption) ?rq30
      case yq29 => intro W hSw; go_simp; all_goals with_reducible rfl
      try simp only [Act.put, List.setIfInBounds_toArray, List.set_cons_zero, List.set_cons_succ]
      refine wpAnyH_ready (rs := [11]) (by kernel_rfl) (by simp) ?_
      refine (AllReadyH.cons rfl (fun K hK => ?_) AllReadyH.nil)
      go_simp
      refine hK.out _ _ (trivial) (fun hHeld => ?_)
      clear hK K
      try simp only [Act.put, List.setIfInBounds_toArray, List.set_cons_zero, List.set_cons_succ]
      refine wpAnyH_done (by kernel_rfl) ?_ _
      refine NoPanic.normal ?_
      generalize w3.setCell ⟨gw, 1, none⟩ (.slice (some ⟨g1, 0, none⟩) ln1 cp1) = W2 at HW1 HF1 ⊢
      clear HW HF c0 c1 c2 c3 c4 c5 c6 cf d0 d1 d2 d3 d4 d5 d6 df f0 f1 f2 f3 f4 f5 f6 ff k0 k1 k2 k3 k4 k5 k6 kf
      have HW := HW1
      have HF := HF1
      clear HW1 HF1
      obtain ⟨c0, c1, c2, c3, c4, c5, c6, cf⟩ := wcell HW.out.blk
      go_wp2_with (first | (go_at_call 23; refine (HW.out.fpush HF.out HD.out _).mono ?_; rintro e1 w1 ⟨rfl, bv1, gs1, n1, cap1, hw1, hf1⟩; clear HW HF c0 c1 c2 c3 c4 c5 c6 cf; have HW := Lib.hid hw1; have HF := Lib.hid hf1; clear hw1 hf1; obtain ⟨c0, c1, c2, c3, c4, c5, c6, cf⟩ := wcell HW.out.blk))
      go_ret2
      exact ⟨rfl, _, _, _, _, HW.out, HF.out⟩

set_option maxRecDepth 100000 in
set_option maxHeartbeats 4000000 in
theorem Wr.wKey6 (h : Wr base gw iv can bs ms0 6 bv gs n cap w) (hB : 13 ≤ base) (hT : Tabs w) (hbl : bs.length ≤ 800000000) (hd : ms0.length ≤ 700) (s : ByteArray) (l : List UInt8) (hl : l.length ≤ 5000) (hE : EscC s l) (sx : ByteArray) (hTX : (⟨l.toArray⟩ : ByteArray) ++ ⟨#[58]⟩ = sx) (hTl : sx.size ≤ 20000) (hTp : 0 < sx.size) :
    Calls Tryz.prog 24 #[.pointer (some ⟨gw, 0, none⟩), .string s] w (fun e w' => e = .returned (.tuple #[.iface 40 (.pointer (some ⟨gw, 0, none⟩)), .nilIface]) ∧ WF base gw iv can (bs ++ sx.data.toList) (ms0 ++ [6]) 5 gs bv w w') := by
  obtain ⟨c0, c1, c2, c3, c4, c5, c6, cf⟩ := wcell h.blk
  obtain ⟨t0, tf⟩ := h.top
  have hn1 := h.nle
  have kc := fun (W : World) (s : ByteArray) => run_conv_bytes W s
  have HW := Lib.hid h
  have HF := Lib.hid (Fr.refl gw gs bv w)
  have HWS := HW
  have HT := Lib.hid hT
  have HD : Hid (ms0.length ≤ 800) := Lib.hid (by omega)
  have HE := Lib.hid hE
  clear hE
  have HTX := Lib.hid hTX
  clear hTX
  clear h hT hd
  have hf0 : (0 : Int) ≤ (ms0.length : Nat) := by omega
  have hf1 : ((ms0.length : Nat) : Int) < (n : Nat) := by omega
  clear hn1
  go_enter Tryz.func24, Tryz.ntmps24
  go_wp2
  go_quiet (fail)
  have hq := below_dn (Below.refl w.heap.size w) nq
  have hw1 := HW.out.bel hq
  have hf1 := HF.out.bel hq
  generalize w.drewN nq = wq at hw1 hf1 ⊢
  clear HW HF c0 c1 c2 c3 c4 c5 c6 cf t0 tf hq
  have HW := Lib.hid hw1
  have HF := Lib.hid hf1
  clear hw1 hf1
  obtain ⟨c0, c1, c2, c3, c4, c5, c6, cf⟩ := wcell HW.out.blk
  go_upto_region 7 with (fail)
  have HBF := Lib.hid (BSt.fresh (Below.refl wq.heap.size wq))
  generalize hWb : wq.alloc (.cells #[.slice none 0 0, .int .i64 0, .int .i8 0] 39) = Wb at HBF ⊢
  have HW0 := HW
  have HF0 := HF
  have HB13 : Hid (13 ≤ wq.heap.size) := Lib.hid (Nat.le_trans hB HW0.out.lt.2.2.2)
  have hwq := HW0.out.bel HBF.out.below
  have hf1 := HF0.out.bel HBF.out.below
  clear hWb
  clear HW HF c0 c1 c2 c3 c4 c5 c6 cf
  have HW := Lib.hid hwq
  have HF := Lib.hid hf1
  clear hwq hf1
  obtain ⟨c0, c1, c2, c3, c4, c5, c6, cf⟩ := wcell HW.out.blk
  go_upto_region 8 with (first | (go_at_call 39; refine (HE.out _ _ _ _ _ (Tabs.wr HT.out HWS.out HF.out hB) HBF.out (by first | decide | omega | (simp only [List.length_append, data_length, List.length_cons, List.length_nil]; omega)) HB13.out).mono ?_; rintro e1 w2 ⟨rfl, hb2⟩; clear HBF; have HBF := Lib.hid hb2; clear hb2; have hw1 := HW0.out.bel HBF.out.below; have hf1 := HF0.out.bel HBF.out.below; clear HW HF c0 c1 c2 c3 c4 c5 c6 cf; have HW := Lib.hid hw1; have HF := Lib.hid hf1; clear hw1 hf1; obtain ⟨c0, c1, c2, c3, c4, c5, c6, cf⟩ := wcell HW.out.blk))
  refine wp_region_noPanic ?_
  refine wp_region_held_drew (S := fun _ => True) (by kernel_rfl) (trivial) (fun hHeld => ?_)
  refine takeH (i := 0) (some 31) ?vq1 rfl rfl (by kernel_rfl) (by kernel_rfl) (by kernel_rfl) (fun _ _ _ h => h) (by rfl) ?yq2 (by assumption) ?rq3
  case yq2 => intro W hSw; go_simp; all_goals with_reducible rfl
  try simp only [Act.put, List.setIfInBounds_toArray, List.set_cons_zero, List.set_cons_succ]
  refine takeH (i := 1) (some 32) ?vq4 rfl rfl (by kernel_rfl) (by kernel_rfl) (by kernel_rfl) (fun _ _ _ h => h) (by rfl) ?yq5 (by assumption) ?rq6
  case yq5 => intro W hSw; go_simp; all_goals with_reducible rfl
  try simp only [Act.put, List.setIfInBounds_toArray, List.set_cons_zero, List.set_cons_succ]
  refine takeH (i := 2) (some 33) ?vq7 rfl rfl (by kernel_rfl) (by kernel_rfl) (by kernel_rfl) (fun _ _ _ h => h) (by rfl) ?yq8 (by assumption) ?rq9
  case yq8 => intro W hSw; go_simp; all_goals with_reducible rfl
  try simp only [Act.put, List.setIfInBounds_toArray, List.set_cons_zero, List.set_cons_succ]
  refine takeH (i := 3) (some 34) ?vq10 rfl rfl (by kernel_rfl) (by kernel_rfl) (by kernel_rfl) (fun _ _ _ h => h) (by rfl) ?yq11 (by assumption) ?rq12
  case yq11 => intro W hSw; go_simp; all_goals with_reducible rfl
  try simp only [Act.put, List.setIfInBounds_toArray, List.set_cons_zero, List.set_cons_succ]
  refine wpAnyH_ready (rs := [4, 5]) (by kernel_rfl) (by simp) ?_
  refine (AllReadyH.cons rfl (fun K hK => ?_) (AllReadyH.cons rfl (fun K hK => ?_) AllReadyH.nil))
  · go_simp
    refine hK.out _ _ (trivial) (fun hHeld => ?_)
    clear hK K
    try simp only [Act.put, List.setIfInBounds_toArray, List.set_cons_zero, List.set_cons_succ]
    refine wpAnyH_ready (rs := [5]) (by kernel_rfl) (by simp) ?_
    refine (AllReadyH.cons rfl (fun K hK => ?_) AllReadyH.nil)
    go_simp
    refine (HBF.out.dr.string).mono ?_
    rintro e2 w2 ⟨rfl, hb2⟩
    have HBF2 := Lib.hid hb2
    clear hb2
    obtain ⟨f0, f1, f2, f3, f4, f5, f6, ff⟩ := wcell (HW0.out.bel HBF2.out.below).blk
    obtain ⟨k0, k1, k2, k3, k4, k5, k6, kf⟩ := wcell (HW0.out.bel (HBF2.out.below.trans ((bytes_below _ sx).mono HBF2.out.size))).blk
    refine hK.out _ _ (trivial) (fun hHeld => ?_)
    clear hK K
    try simp only [Act.put, List.setIfInBounds_toArray, List.set_cons_zero, List.set_cons_succ]
    refine takeH (i := 6) (some 37) (.string sx) rfl rfl (by kernel_rfl) (by kernel_rfl) (by kernel_rfl) (fun _ _ _ h => h) (by rfl) (fun W hSw => by go_simp; first | (rw [if_neg (by omega), HTX.out]) | exact ⟨by omega, HTX.out⟩ | exact ⟨HTX.out, by omega⟩ | (rw [HTX.out]; omega)) (by assumption) ?_
    try simp only [Act.put, List.setIfInBounds_toArray, List.set_cons_zero, List.set_cons_succ]
    refine wpAnyH_ready (rs := [7]) (by kernel_rfl) (by simp) ?_
    refine (AllReadyH.cons rfl (fun K hK => ?_) AllReadyH.nil)
    go_simp
    refine hK.out _ _ (trivial) (fun hHeld => ?_)
    clear hK K
    try simp only [Act.put, List.setIfInBounds_toArray, List.set_cons_zero, List.set_cons_succ]
    refine wpAnyH_ready (rs := [8]) (by kernel_rfl) (by simp) ?_
    refine (AllReadyH.cons rfl (fun K hK => ?_) AllReadyH.nil)
    rw [if_pos (by rfl)]
    refine wp_wr_append HW0.out HF0.out (HBF2.out.below.trans ((bytes_below _ sx).mono HBF2.out.size)) _ _ rfl rfl ⟨_, 0, none⟩ _ _ sx.data.toList rfl (data_length _) (news_str _ _) (by rw [data_length]; omega) (by rw [data_length]; omega) ?_
    intro g1 ln1 cp1 w3 hg hw1 hf1
    have HW1 := hw1
    have HF1 := hf1
    obtain ⟨d0, d1, d2, d3, d4, d5, d6, df⟩ := wcell (hg.trans HW0.out.blk)
    clear hw1 hf1 hg
    refine hK.out _ _ (trivial) (fun hHeld => ?_)
    clear hK K
    try simp only [Act.put, List.setIfInBounds_toArray, List.set_cons_zero, List.set_cons_succ]
    refine takeH (i := 9) (some 40) ?vq13 rfl rfl (by kernel_rfl) (by kernel_rfl) (by kernel_rfl) (fun _ _ _ h => h) (by rfl) ?yq14 (by assumption) ?rq15
    case yq14 => intro W hSw; go_simp; all_goals with_reducible rfl
    try simp only [Act.put, List.setIfInBounds_toArray, List.set_cons_zero, List.set_cons_succ]
    refine takeH (i := 10) (some 41) ?vq16 rfl rfl (by kernel_rfl) (by kernel_rfl) (by kernel_rfl) (fun _ _ _ h => h) (by rfl) ?yq17 (by assumption) ?rq18
    case yq17 => intro W hSw; go_simp; all_goals with_reducible rfl
    try simp only [Act.put, List.setIfInBounds_toArray, List.set_cons_zero, List.set_cons_succ]
    refine wpAnyH_ready (rs := [11]) (by kernel_rfl) (by simp) ?_
    refine (AllReadyH.cons rfl (fun K hK => ?_) AllReadyH.nil)
    go_simp
    refine hK.out _ _ (trivial) (fun hHeld => ?_)
    clear hK K
    try simp only [Act.put, List.setIfInBounds_toArray, List.set_cons_zero, List.set_cons_succ]
    refine wpAnyH_done (by kernel_rfl) ?_ _
    refine NoPanic.normal ?_
    generalize w3.setCell ⟨gw, 1, none⟩ (.slice (some ⟨g1, 0, none⟩) ln1 cp1) = W2 at HW1 HF1 ⊢
    clear HW HF c0 c1 c2 c3 c4 c5 c6 cf d0 d1 d2 d3 d4 d5 d6 df f0 f1 f2 f3 f4 f5 f6 ff k0 k1 k2 k3 k4 k5 k6 kf
    have HW := HW1
    have HF := HF1
    clear HW1 HF1
    obtain ⟨c0, c1, c2, c3, c4, c5, c6, cf⟩ := wcell HW.out.blk
    go_wp2_with (first | (go_at_call 23; refine (HW.out.fpush HF.out HD.out _).mono ?_; rintro e1 w1 ⟨rfl, bv1, gs1, n1, cap1, hw1, hf1⟩; clear HW HF c0 c1 c2 c3 c4 c5 c6 cf; have HW := Lib.hid hw1; have HF := Lib.hid hf1; clear hw1 hf1; obtain ⟨c0, c1, c2, c3, c4, c5, c6, cf⟩ := wcell HW.out.blk))
    go_ret2
    exact ⟨rfl, _, _, _, _, HW.out, HF.out⟩
  · go_simp
    refine (HBF.out.dr.string).mono ?_
    rintro e2 w2 ⟨rfl, hb2⟩
    have HBF2 := Lib.hid hb2
    clear hb2
    obtain ⟨f0, f1, f2, f3, f4, f5, f6, ff⟩ := wcell (HW0.out.bel HBF2.out.below).blk
    obtain ⟨k0, k1, k2, k3, k4, k5, k6, kf⟩ := wcell (HW0.out.bel (HBF2.out.below.trans ((bytes_below _ sx).mono HBF2.out.size))).blk
    refine hK.out _ _ (trivial) (fun hHeld => ?_)
    clear hK K
    try simp only [Act.put, List.setIfInBounds_toArray, List.set_cons_zero, List.set_cons_succ]
    refine takeH (i := 6) (some 37) (.string sx) rfl rfl (by kernel_rfl) (by kernel_rfl) (by kernel_rfl) (fun _ _ _ h => h) (by rfl) (fun W hSw => by go_simp; first | (rw [if_neg (by omega), HTX.out]) | exact ⟨by omega, HTX.out⟩ | exact ⟨HTX.out, by omega⟩ | (rw [HTX.out]; omega)) (by assumption) ?_
    try simp only [Act.put, List.setIfInBounds_toArray, List.set_cons_zero, List.set_cons_succ]
    refine wpAnyH_ready (rs := [4, 7]) (by kernel_rfl) (by simp) ?_
    refine (AllReadyH.cons rfl (fun K hK => ?_) (AllReadyH.cons rfl (fun K hK => ?_) AllReadyH.nil))
    · go_simp
      refine hK.out _ _ (trivial) (fun hHeld => ?_)
      clear hK K
      try simp only [Act.put, List.setIfInBounds_toArray, List.set_cons_zero, List.set_cons_succ]
      refine wpAnyH_ready (rs := [7]) (by kernel_rfl) (by simp) ?_
      refine (AllReadyH.cons rfl (fun K hK => ?_) AllReadyH.nil)
      go_simp
      refine hK.out _ _ (trivial) (fun hHeld => ?_)
      clear hK K
      try simp only [Act.put, List.setIfInBounds_toArray, List.set_cons_zero, List.set_cons_succ]
      refine wpAnyH_ready (rs := [8]) (by kernel_rfl) (by simp) ?_
      refine (AllReadyH.cons rfl (fun K hK => ?_) AllReadyH.nil)
      rw [if_pos (by rfl)]
      refine wp_wr_append HW0.out HF0.out (HBF2.out.below.trans ((bytes_below _ sx).mono HBF2.out.size)) _ _ rfl rfl ⟨_, 0, none⟩ _ _ sx.data.toList rfl (data_length _) (news_str _ _) (by rw [data_length]; omega) (by rw [data_length]; omega) ?_
      intro g1 ln1 cp1 w3 hg hw1 hf1
      have HW1 := hw1
      have HF1 := hf1
      obtain ⟨d0, d1, d2, d3, d4, d5, d6, df⟩ := wcell (hg.trans HW0.out.blk)
      clear hw1 hf1 hg
      refine hK.out _ _ (trivial) (fun hHeld => ?_)
      clear hK K
      try simp only [Act.put, List.setIfInBounds_toArray, List.set_cons_zero, List.set_cons_succ]
      refine takeH (i := 9) (some 40) ?vq19 rfl rfl (by kernel_rfl) (by kernel_rfl) (by kernel_rfl) (fun _ _ _ h => h) (by rfl) ?yq20 (by assumption) ?rq21
      case yq20 => intro W hSw; go_simp; all_goals with_reducible rfl
      try simp only [Act.put, List.setIfInBounds_toArray, List.set_cons_zero, List.set_cons_succ]
      refine takeH (i := 10) (some 41) ?vq22 rfl rfl (by kernel_rfl) (by kernel_rfl) (by kernel_rfl) (fun _ _ _ h => h) (by rfl) ?yq23 (by assumption) ?rq24
      case yq23 => intro W hSw; go_simp; all_goals with_reducible rfl
      try simp only [Act.put, List.setIfInBounds_toArray, List.set_cons_zero, List.set_cons_succ]
      refine wpAnyH_ready (rs := [11]) (by kernel_rfl) (by simp) ?_
      refine (AllReadyH.cons rfl (fun K hK => ?_) AllReadyH.nil)
      go_simp
      refine hK.out _ _ (trivial) (fun hHeld => ?_)
      clear hK K
      try simp only [Act.put, List.setIfInBounds_toArray, List.set_cons_zero, List.set_cons_succ]
      refine wpAnyH_done (by kernel_rfl) ?_ _
      refine NoPanic.normal ?_
      generalize w3.setCell ⟨gw, 1, none⟩ (.slice (some ⟨g1, 0, none⟩) ln1 cp1) = W2 at HW1 HF1 ⊢
      clear HW HF c0 c1 c2 c3 c4 c5 c6 cf d0 d1 d2 d3 d4 d5 d6 df f0 f1 f2 f3 f4 f5 f6 ff k0 k1 k2 k3 k4 k5 k6 kf
      have HW := HW1
      have HF := HF1
      clear HW1 HF1
      obtain ⟨c0, c1, c2, c3, c4, c5, c6, cf⟩ := wcell HW.out.blk
      go_wp2_with (first | (go_at_call 23; refine (HW.out.fpush HF.out HD.out _).mono ?_; rintro e1 w1 ⟨rfl, bv1, gs1, n1, cap1, hw1, hf1⟩; clear HW HF c0 c1 c2 c3 c4 c5 c6 cf; have HW := Lib.hid hw1; have HF := Lib.hid hf1; clear hw1 hf1; obtain ⟨c0, c1, c2, c3, c4, c5, c6, cf⟩ := wcell HW.out.blk))
      go_ret2
      exact ⟨rfl, _, _, _, _, HW.out, HF.out⟩
    · go_simp
      refine hK.out _ _ (trivial) (fun hHeld => ?_)
      clear hK K
      try simp only [Act.put, List.setIfInBounds_toArray, List.set_cons_zero, List.set_cons_succ]
      refine wpAnyH_ready (rs := [4]) (by kernel_rfl) (by simp) ?_
      refine (AllReadyH.cons rfl (fun K hK => ?_) AllReadyH.nil)
      go_simp
      refine hK.out _ _ (trivial) (fun hHeld => ?_)
      clear hK K
      try simp only [Act.put, List.setIfInBounds_toArray, List.set_cons_zero, List.set_cons_succ]
      refine wpAnyH_ready (rs := [8]) (by kernel_rfl) (by simp) ?_
      refine (AllReadyH.cons rfl (fun K hK => ?_) AllReadyH.nil)
      rw [if_pos (by rfl)]
      refine wp_wr_append HW0.out HF0.out (HBF2.out.below.trans ((bytes_below _ sx).mono HBF2.out.size)) _ _ rfl rfl ⟨_, 0, none⟩ _ _ sx.data.toList rfl (data_length _) (news_str _ _) (by rw [data_length]; omega) (by rw [data_length]; omega) ?_
      intro g1 ln1 cp1 w3 hg hw1 hf1
      have HW1 := hw1
      have HF1 := hf1
      obtain ⟨d0, d1, d2, d3, d4, d5, d6, df⟩ := wcell (hg.trans HW0.out.blk)
      clear hw1 hf1 hg
      refine hK.out _ _ (trivial) (fun hHeld => ?_)
      clear hK K
      try simp only [Act.put, List.setIfInBounds_toArray, List.set_cons_zero, List.set_cons_succ]
      refine takeH (i := 9) (some 40) ?vq25 rfl rfl (by kernel_rfl) (by kernel_rfl) (by kernel_rfl) (fun _ _ _ h => h) (by rfl) ?yq26 (by assumption) ?rq27
      case yq26 => intro W hSw; go_simp; all_goals with_reducible rfl
      try simp only [Act.put, List.setIfInBounds_toArray, List.set_cons_zero, List.set_cons_succ]
      refine takeH (i := 10) (some 41) ?vq28 rfl rfl (by kernel_rfl) (by kernel_rfl) (by kernel_rfl) (fun _ _ _ h => h) (by rfl) ?yq29 (by assumption) ?rq30
      case yq29 => intro W hSw; go_simp; all_goals with_reducible rfl
      try simp only [Act.put, List.setIfInBounds_toArray, List.set_cons_zero, List.set_cons_succ]
      refine wpAnyH_ready (rs := [11]) (by kernel_rfl) (by simp) ?_
      refine (AllReadyH.cons rfl (fun K hK => ?_) AllReadyH.nil)
      go_simp
      refine hK.out _ _ (trivial) (fun hHeld => ?_)
      clear hK K
      try simp only [Act.put, List.setIfInBounds_toArray, List.set_cons_zero, List.set_cons_succ]
      refine wpAnyH_done (by kernel_rfl) ?_ _
      refine NoPanic.normal ?_
      generalize w3.setCell ⟨gw, 1, none⟩ (.slice (some ⟨g1, 0, none⟩) ln1 cp1) = W2 at HW1 HF1 ⊢
      clear HW HF c0 c1 c2 c3 c4 c5 c6 cf d0 d1 d2 d3 d4 d5 d6 df f0 f1 f2 f3 f4 f5 f6 ff k0 k1 k2 k3 k4 k5 k6 kf
      have HW := HW1
      have HF := HF1
      clear HW1 HF1
      obtain ⟨c0, c1, c2, c3, c4, c5, c6, cf⟩ := wcell HW.out.blk
      go_wp2_with (first | (go_at_call 23; refine (HW.out.fpush HF.out HD.out _).mono ?_; rintro e1 w1 ⟨rfl, bv1, gs1, n1, cap1, hw1, hf1⟩; clear HW HF c0 c1 c2 c3 c4 c5 c6 cf; have HW := Lib.hid hw1; have HF := Lib.hid hf1; clear hw1 hf1; obtain ⟨c0, c1, c2, c3, c4, c5, c6, cf⟩ := wcell HW.out.blk))
      go_ret2
      exact ⟨rfl, _, _, _, _, HW.out, HF.out⟩
end

end Go.Proofs.YtpkfdbhpmhahaaaGreatDoor
