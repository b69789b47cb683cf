/- Booleans and doubles. -/
import Derived.Test.YtpkfdbhpmhahaaaGreatDoorWsd
namespace Go.Proofs.YtpkfdbhpmhahaaaGreatDoor
open Go Go.RowKit
set_option linter.unusedSimpArgs false
set_option linter.unusedVariables false

/-- A double's text: under its key, or bare. -/
def dblTxt (can : Bool) (it : ByteArray) : List UInt8 :=
  if can then (esv ⟨#[110, 117, 109, 98, 101, 114, 68, 111, 117, 98, 108, 101]⟩ it true).data.toList else if it = ⟨#[73, 110, 102, 105, 110, 105, 116, 121]⟩ then [123, 34, 36, 110, 117, 109, 98, 101, 114, 68, 111, 117, 98, 108, 101, 34, 58, 34, 73, 110, 102, 105, 110, 105, 116, 121, 34, 125] else if it = ⟨#[45, 73, 110, 102, 105, 110, 105, 116, 121]⟩ then [123, 34, 36, 110, 117, 109, 98, 101, 114, 68, 111, 117, 98, 108, 101, 34, 58, 34, 45, 73, 110, 102, 105, 110, 105, 116, 121, 34, 125] else if it = ⟨#[78, 97, 78]⟩ then [123, 34, 36, 110, 117, 109, 98, 101, 114, 68, 111, 117, 98, 108, 101, 34, 58, 34, 78, 97, 78, 34, 125] else it.data.toList
theorem txt_ne {it c : ByteArray} (l : List UInt8) (hl : l = c.data.toList) (h : it ≠ c) : (it.toList == l) = false := by
  rw [hl, ← ByteArray.toList_eq, toList_beq]
  exact decide_eq_false h

section
variable {base gw : Nat} {iv : Value} {can : Bool} {bs : List UInt8} {ms1 : List Int} {m1 m : Int} {bv : Value} {gs n cap : Nat} {w : World}

set_option maxRecDepth 100000 in
set_option maxHeartbeats 4000000 in
theorem Wr.wBoolean (h : Wr base gw iv can bs (ms1 ++ [m1]) m bv gs n cap w) (hm : m = 4 ∨ m = 5) (hB : 13 ≤ base) (hT : Tabs w) (hbl : bs.length ≤ 800000000) (b : Bool) (it : ByteArray) (hit : it.size ≤ 400) (hpos : 0 < it.size) (hI : ∀ w, Calls Tryz.prog 82 #[.bool b] w (fun e w2 => e = .returned (.string it) ∧ w = w2)) :
    Calls Tryz.prog 59 #[.pointer (some ⟨gw, 0, none⟩), .bool b] w (fun e w' => e = .returned .nilIface ∧ WF base gw iv can (bs ++ it.data.toList ++ [44]) ms1 m1 gs bv w w') := by
  obtain ⟨c0, c1, c2, c3, c4, c5, c6, cf⟩ := wcell h.blk
  have kc := fun (W : World) (s : ByteArray) => run_conv_bytes W s
  have HI := Lib.hid hI
  clear hI
  have HW := Lib.hid h
  have HF := Lib.hid (Fr.refl gw gs bv w)
  have HWS := HW
  have HT := Lib.hid hT
  have HM := Lib.hid hm
  clear h hT hm
  go_enter Tryz.func59, Tryz.ntmps59
  go_upto_region 4 with (first | (go_at_call 22; refine (HW.out.fensure HF.out HM.out _ _ _).mono ?_; rintro e1 w1 ⟨rfl, hw1, hf1⟩; clear HW HF c0 c1 c2 c3 c4 c5 c6 cf; have HW := Lib.hid hw1; have HF := Lib.hid hf1; clear hw1 hf1; obtain ⟨c0, c1, c2, c3, c4, c5, c6, cf⟩ := wcell HW.out.blk))
  obtain ⟨f0, f1, f2, f3, f4, f5, f6, ff⟩ := wcell (HW.out.bel ((below_drew (Below.refl w1.heap.size w1)).trans (bytes_below w1.drew it))).blk
  refine wp_region_noPanic ?_
  refine wp_region_held_drew (S := fun _ => True) (by kernel_rfl) (trivial) (fun hHeld => ?_)
  refine takeH (i := 0) (some 11) ?vq1 rfl rfl (by kernel_rfl) (by kernel_rfl) (by kernel_rfl) (fun _ _ _ h => h) (by rfl) ?yq2 (by assumption) ?rq3
  case yq2 => intro W hSw; go_simp; all_goals with_reducible rfl
  try simp only [Act.put, List.setIfInBounds_toArray, List.set_cons_zero, List.set_cons_succ]
  refine takeH (i := 1) (some 12) ?vq4 rfl rfl (by kernel_rfl) (by kernel_rfl) (by kernel_rfl) (fun _ _ _ h => h) (by rfl) ?yq5 (by assumption) ?rq6
  case yq5 => intro W hSw; go_simp; all_goals with_reducible rfl
  try simp only [Act.put, List.setIfInBounds_toArray, List.set_cons_zero, List.set_cons_succ]
  refine takeH (i := 2) (some 13) ?vq7 rfl rfl (by kernel_rfl) (by kernel_rfl) (by kernel_rfl) (fun _ _ _ h => h) (by rfl) ?yq8 (by assumption) ?rq9
  case yq8 => intro W hSw; go_simp; all_goals with_reducible rfl
  try simp only [Act.put, List.setIfInBounds_toArray, List.set_cons_zero, List.set_cons_succ]
  refine takeH (i := 3) (some 14) ?vq10 rfl rfl (by kernel_rfl) (by kernel_rfl) (by kernel_rfl) (fun _ _ _ h => h) (by rfl) ?yq11 (by assumption) ?rq12
  case yq11 => intro W hSw; go_simp; all_goals with_reducible rfl
  try simp only [Act.put, List.setIfInBounds_toArray, List.set_cons_zero, List.set_cons_succ]
  refine takeH (i := 5) (some 16) ?vq13 rfl rfl (by kernel_rfl) (by kernel_rfl) (by kernel_rfl) (fun _ _ _ h => h) (by rfl) ?yq14 (by assumption) ?rq15
  case yq14 => intro W hSw; go_simp; all_goals with_reducible rfl
  try simp only [Act.put, List.setIfInBounds_toArray, List.set_cons_zero, List.set_cons_succ]
  refine wpAnyH_ready (rs := [4, 6]) (by kernel_rfl) (by simp) ?_
  refine (AllReadyH.cons rfl (fun K hK => ?_) (AllReadyH.cons rfl (fun K hK => ?_) AllReadyH.nil))
  · go_simp
    refine hK.out _ _ (trivial) (fun hHeld => ?_)
    clear hK K
    try simp only [Act.put, List.setIfInBounds_toArray, List.set_cons_zero, List.set_cons_succ]
    refine wpAnyH_ready (rs := [6]) (by kernel_rfl) (by simp) ?_
    refine (AllReadyH.cons rfl (fun K hK => ?_) AllReadyH.nil)
    go_simp
    refine (HI.out _).mono ?_
    rintro e2 w2 ⟨rfl, rfl⟩
    refine hK.out _ _ (trivial) (fun hHeld => ?_)
    clear hK K
    try simp only [Act.put, List.setIfInBounds_toArray, List.set_cons_zero, List.set_cons_succ]
    refine wpAnyH_ready (rs := [7]) (by kernel_rfl) (by simp) ?_
    refine (AllReadyH.cons rfl (fun K hK => ?_) AllReadyH.nil)
    go_simp
    refine hK.out _ _ (trivial) (fun hHeld => ?_)
    clear hK K
    try simp only [Act.put, List.setIfInBounds_toArray, List.set_cons_zero, List.set_cons_succ]
    refine wpAnyH_ready (rs := [8]) (by kernel_rfl) (by simp) ?_
    refine (AllReadyH.cons rfl (fun K hK => ?_) AllReadyH.nil)
    rw [if_pos (by rfl)]
    refine wp_wr_append HW.out HF.out ((below_drew (Below.refl w1.heap.size w1)).trans (bytes_below w1.drew it)) _ _ rfl rfl ⟨_, 0, none⟩ _ _ it.data.toList rfl rfl (news_str _ _) (by rw [data_length]; exact hpos) (by first | decide | omega | (simp only [List.length_append, data_length, List.length_cons, List.length_nil]; omega)) ?_
    intro g1 ln1 cp1 w3 hg hw1 hf1
    have HW1 := hw1
    have HF1 := hf1
    obtain ⟨d0, d1, d2, d3, d4, d5, d6, df⟩ := wcell (hg.trans HW.out.blk)
    clear hw1 hf1 hg
    refine hK.out _ _ (trivial) (fun hHeld => ?_)
    clear hK K
    try simp only [Act.put, List.setIfInBounds_toArray, List.set_cons_zero, List.set_cons_succ]
    refine takeH (i := 9) (some 20) ?vq16 rfl rfl (by kernel_rfl) (by kernel_rfl) (by kernel_rfl) (fun _ _ _ h => h) (by rfl) ?yq17 (by assumption) ?rq18
    case yq17 => intro W hSw; go_simp; all_goals with_reducible rfl
    try simp only [Act.put, List.setIfInBounds_toArray, List.set_cons_zero, List.set_cons_succ]
    refine takeH (i := 10) (some 21) ?vq19 rfl rfl (by kernel_rfl) (by kernel_rfl) (by kernel_rfl) (fun _ _ _ h => h) (by rfl) ?yq20 (by assumption) ?rq21
    case yq20 => intro W hSw; go_simp; all_goals with_reducible rfl
    try simp only [Act.put, List.setIfInBounds_toArray, List.set_cons_zero, List.set_cons_succ]
    refine wpAnyH_ready (rs := [11]) (by kernel_rfl) (by simp) ?_
    refine (AllReadyH.cons rfl (fun K hK => ?_) AllReadyH.nil)
    go_simp
    refine hK.out _ _ (trivial) (fun hHeld => ?_)
    clear hK K
    try simp only [Act.put, List.setIfInBounds_toArray, List.set_cons_zero, List.set_cons_succ]
    refine wpAnyH_done (by kernel_rfl) ?_ _
    refine NoPanic.normal ?_
    generalize w3.setCell ⟨gw, 1, none⟩ (.slice (some ⟨g1, 0, none⟩) ln1 cp1) = W2 at HW1 HF1 ⊢
    clear HW HF c0 c1 c2 c3 c4 c5 c6 cf d0 d1 d2 d3 d4 d5 d6 df f0 f1 f2 f3 f4 f5 f6 ff
    have HW := HW1
    have HF := HF1
    clear HW1 HF1
    obtain ⟨c0, c1, c2, c3, c4, c5, c6, cf⟩ := wcell HW.out.blk
    go_wp2_with (first | ((with_reducible refine wpList_at (some 28) ?_); refine wpList_wr_append HW.out HF.out ((Below.refl _ _).alloc (Nat.le_refl _) _) rfl _ _ rfl rfl ⟨_, 0, none⟩ 1 _ [44] rfl rfl (news_one _ 44) (by decide) (by first | omega | (simp only [List.length_append, data_length, List.length_cons, List.length_nil]; omega)) ?_; intro g1 ln1 cp1 w1 hg hw1 hf1; have hcc := wcell (hg.trans HW.out.blk); clear HW HF c0 c1 c2 c3 c4 c5 c6 cf hg; have HW := hw1; have HF := hf1; clear hw1 hf1; obtain ⟨c0, c1, c2, c3, c4, c5, c6, cf⟩ := hcc) | (go_at_call 46; refine (HW.out.fpop1 HF.out HM.out).mono ?_; rintro e1 w1 ⟨rfl, bv1, gs1, n1, cap1, hw1, hf1⟩; clear HW HF c0 c1 c2 c3 c4 c5 c6 cf; have HW := Lib.hid hw1; have HF := Lib.hid hf1; clear hw1 hf1; obtain ⟨c0, c1, c2, c3, c4, c5, c6, cf⟩ := wcell HW.out.blk))
    go_ret
    exact ⟨rfl, _, _, _, _, HW.out, HF.out⟩
  · go_simp
    refine (HI.out _).mono ?_
    rintro e2 w2 ⟨rfl, rfl⟩
    refine hK.out _ _ (trivial) (fun hHeld => ?_)
    clear hK K
    try simp only [Act.put, List.setIfInBounds_toArray, List.set_cons_zero, List.set_cons_succ]
    refine wpAnyH_ready (rs := [4, 7]) (by kernel_rfl) (by simp) ?_
    refine (AllReadyH.cons rfl (fun K hK => ?_) (AllReadyH.cons rfl (fun K hK => ?_) AllReadyH.nil))
    · go_simp
      refine hK.out _ _ (trivial) (fun hHeld => ?_)
      clear hK K
      try simp only [Act.put, List.setIfInBounds_toArray, List.set_cons_zero, List.set_cons_succ]
      refine wpAnyH_ready (rs := [7]) (by kernel_rfl) (by simp) ?_
      refine (AllReadyH.cons rfl (fun K hK => ?_) AllReadyH.nil)
      go_simp
      refine hK.out _ _ (trivial) (fun hHeld => ?_)
      clear hK K
      try simp only [Act.put, List.setIfInBounds_toArray, List.set_cons_zero, List.set_cons_succ]
      refine wpAnyH_ready (rs := [8]) (by kernel_rfl) (by simp) ?_
      refine (AllReadyH.cons rfl (fun K hK => ?_) AllReadyH.nil)
      rw [if_pos (by rfl)]
      refine wp_wr_append HW.out HF.out ((below_drew (Below.refl w1.heap.size w1)).trans (bytes_below w1.drew it)) _ _ rfl rfl ⟨_, 0, none⟩ _ _ it.data.toList rfl rfl (news_str _ _) (by rw [data_length]; exact hpos) (by first | decide | omega | (simp only [List.length_append, data_length, List.length_cons, List.length_nil]; omega)) ?_
      intro g1 ln1 cp1 w3 hg hw1 hf1
      have HW1 := hw1
      have HF1 := hf1
      obtain ⟨d0, d1, d2, d3, d4, d5, d6, df⟩ := wcell (hg.trans HW.out.blk)
      clear hw1 hf1 hg
      refine hK.out _ _ (trivial) (fun hHeld => ?_)
      clear hK K
      try simp only [Act.put, List.setIfInBounds_toArray, List.set_cons_zero, List.set_cons_succ]
      refine takeH (i := 9) (some 20) ?vq22 rfl rfl (by kernel_rfl) (by kernel_rfl) (by kernel_rfl) (fun _ _ _ h => h) (by rfl) ?yq23 (by assumption) ?rq24
      case yq23 => intro W hSw; go_simp; all_goals with_reducible rfl
      try simp only [Act.put, List.setIfInBounds_toArray, List.set_cons_zero, List.set_cons_succ]
      refine takeH (i := 10) (some 21) ?vq25 rfl rfl (by kernel_rfl) (by kernel_rfl) (by kernel_rfl) (fun _ _ _ h => h) (by rfl) ?yq26 (by assumption) ?rq27
      case yq26 => intro W hSw; go_simp; all_goals with_reducible rfl
      try simp only [Act.put, List.setIfInBounds_toArray, List.set_cons_zero, List.set_cons_succ]
      refine wpAnyH_ready (rs := [11]) (by kernel_rfl) (by simp) ?_
      refine (AllReadyH.cons rfl (fun K hK => ?_) AllReadyH.nil)
      go_simp
      refine hK.out _ _ (trivial) (fun hHeld => ?_)
      clear hK K
      try simp only [Act.put, List.setIfInBounds_toArray, List.set_cons_zero, List.set_cons_succ]
      refine wpAnyH_done (by kernel_rfl) ?_ _
      refine NoPanic.normal ?_
      generalize w3.setCell ⟨gw, 1, none⟩ (.slice (some ⟨g1, 0, none⟩) ln1 cp1) = W2 at HW1 HF1 ⊢
      clear HW HF c0 c1 c2 c3 c4 c5 c6 cf d0 d1 d2 d3 d4 d5 d6 df f0 f1 f2 f3 f4 f5 f6 ff
      have HW := HW1
      have HF := HF1
      clear HW1 HF1
      obtain ⟨c0, c1, c2, c3, c4, c5, c6, cf⟩ := wcell HW.out.blk
      go_wp2_with (first | ((with_reducible refine wpList_at (some 28) ?_); refine wpList_wr_append HW.out HF.out ((Below.refl _ _).alloc (Nat.le_refl _) _) rfl _ _ rfl rfl ⟨_, 0, none⟩ 1 _ [44] rfl rfl (news_one _ 44) (by decide) (by first | omega | (simp only [List.length_append, data_length, List.length_cons, List.length_nil]; omega)) ?_; intro g1 ln1 cp1 w1 hg hw1 hf1; have hcc := wcell (hg.trans HW.out.blk); clear HW HF c0 c1 c2 c3 c4 c5 c6 cf hg; have HW := hw1; have HF := hf1; clear hw1 hf1; obtain ⟨c0, c1, c2, c3, c4, c5, c6, cf⟩ := hcc) | (go_at_call 46; refine (HW.out.fpop1 HF.out HM.out).mono ?_; rintro e1 w1 ⟨rfl, bv1, gs1, n1, cap1, hw1, hf1⟩; clear HW HF c0 c1 c2 c3 c4 c5 c6 cf; have HW := Lib.hid hw1; have HF := Lib.hid hf1; clear hw1 hf1; obtain ⟨c0, c1, c2, c3, c4, c5, c6, cf⟩ := wcell HW.out.blk))
      go_ret
      exact ⟨rfl, _, _, _, _, HW.out, HF.out⟩
    · go_simp
      refine hK.out _ _ (trivial) (fun hHeld => ?_)
      clear hK K
      try simp only [Act.put, List.setIfInBounds_toArray, List.set_cons_zero, List.set_cons_succ]
      refine wpAnyH_ready (rs := [4]) (by kernel_rfl) (by simp) ?_
      refine (AllReadyH.cons rfl (fun K hK => ?_) AllReadyH.nil)
      go_simp
      refine hK.out _ _ (trivial) (fun hHeld => ?_)
      clear hK K
      try simp only [Act.put, List.setIfInBounds_toArray, List.set_cons_zero, List.set_cons_succ]
      refine wpAnyH_ready (rs := [8]) (by kernel_rfl) (by simp) ?_
      refine (AllReadyH.cons rfl (fun K hK => ?_) AllReadyH.nil)
      rw [if_pos (by rfl)]
      refine wp_wr_append HW.out HF.out ((below_drew (Below.refl w1.heap.size w1)).trans (bytes_below w1.drew it)) _ _ rfl rfl ⟨_, 0, none⟩ _ _ it.data.toList rfl rfl (news_str _ _) (by rw [data_length]; exact hpos) (by first | decide | omega | (simp only [List.length_append, data_length, List.length_cons, List.length_nil]; omega)) ?_
      intro g1 ln1 cp1 w3 hg hw1 hf1
      have HW1 := hw1
      have HF1 := hf1
      obtain ⟨d0, d1, d2, d3, d4, d5, d6, df⟩ := wcell (hg.trans HW.out.blk)
      clear hw1 hf1 hg
      refine hK.out _ _ (trivial) (fun hHeld => ?_)
      clear hK K
      try simp only [Act.put, List.setIfInBounds_toArray, List.set_cons_zero, List.set_cons_succ]
      refine takeH (i := 9) (some 20) ?vq28 rfl rfl (by kernel_rfl) (by kernel_rfl) (by kernel_rfl) (fun _ _ _ h => h) (by rfl) ?yq29 (by assumption) ?rq30
      case yq29 => intro W hSw; go_simp; all_goals with_reducible rfl
      try simp only [Act.put, List.setIfInBounds_toArray, List.set_cons_zero, List.set_cons_succ]
      refine takeH (i := 10) (some 21) ?vq31 rfl rfl (by kernel_rfl) (by kernel_rfl) (by kernel_rfl) (fun _ _ _ h => h) (by rfl) ?yq32 (by assumption) ?rq33
      case yq32 => intro W hSw; go_simp; all_goals with_reducible rfl
      try simp only [Act.put, List.setIfInBounds_toArray, List.set_cons_zero, List.set_cons_succ]
      refine wpAnyH_ready (rs := [11]) (by kernel_rfl) (by simp) ?_
      refine (AllReadyH.cons rfl (fun K hK => ?_) AllReadyH.nil)
      go_simp
      refine hK.out _ _ (trivial) (fun hHeld => ?_)
      clear hK K
      try simp only [Act.put, List.setIfInBounds_toArray, List.set_cons_zero, List.set_cons_succ]
      refine wpAnyH_done (by kernel_rfl) ?_ _
      refine NoPanic.normal ?_
      generalize w3.setCell ⟨gw, 1, none⟩ (.slice (some ⟨g1, 0, none⟩) ln1 cp1) = W2 at HW1 HF1 ⊢
      clear HW HF c0 c1 c2 c3 c4 c5 c6 cf d0 d1 d2 d3 d4 d5 d6 df f0 f1 f2 f3 f4 f5 f6 ff
      have HW := HW1
      have HF := HF1
      clear HW1 HF1
      obtain ⟨c0, c1, c2, c3, c4, c5, c6, cf⟩ := wcell HW.out.blk
      go_wp2_with (first | ((with_reducible refine wpList_at (some 28) ?_); refine wpList_wr_append HW.out HF.out ((Below.refl _ _).alloc (Nat.le_refl _) _) rfl _ _ rfl rfl ⟨_, 0, none⟩ 1 _ [44] rfl rfl (news_one _ 44) (by decide) (by first | omega | (simp only [List.length_append, data_length, List.length_cons, List.length_nil]; omega)) ?_; intro g1 ln1 cp1 w1 hg hw1 hf1; have hcc := wcell (hg.trans HW.out.blk); clear HW HF c0 c1 c2 c3 c4 c5 c6 cf hg; have HW := hw1; have HF := hf1; clear hw1 hf1; obtain ⟨c0, c1, c2, c3, c4, c5, c6, cf⟩ := hcc) | (go_at_call 46; refine (HW.out.fpop1 HF.out HM.out).mono ?_; rintro e1 w1 ⟨rfl, bv1, gs1, n1, cap1, hw1, hf1⟩; clear HW HF c0 c1 c2 c3 c4 c5 c6 cf; have HW := Lib.hid hw1; have HF := Lib.hid hf1; clear hw1 hf1; obtain ⟨c0, c1, c2, c3, c4, c5, c6, cf⟩ := wcell HW.out.blk))
      go_ret
      exact ⟨rfl, _, _, _, _, HW.out, HF.out⟩

set_option maxRecDepth 100000 in
set_option maxHeartbeats 4000000 in
theorem Wr.wDouble (h : Wr base gw iv can bs (ms1 ++ [m1]) m bv gs n cap w) (hm : m = 4 ∨ m = 5) (hB : 13 ≤ base) (hT : Tabs w) (hbl : bs.length ≤ 800000000) (f : Value) (it : ByteArray) (hit : it.size ≤ 400) (hpos : 0 < it.size) (hI : ∀ w, Tabs w → Calls Tryz.prog 77 #[f] w (Txt it w)) :
    Calls Tryz.prog 53 #[.pointer (some ⟨gw, 0, none⟩), f] w (fun e w' => e = .returned .nilIface ∧ WF base gw iv can (bs ++ dblTxt can it ++ [44]) ms1 m1 gs bv w w') := by
  obtain ⟨c0, c1, c2, c3, c4, c5, c6, cf⟩ := wcell h.blk
  have kc := fun (W : World) (s : ByteArray) => run_conv_bytes W s
  have HI := Lib.hid hI
  clear hI
  have hes : (esv ⟨#[110, 117, 109, 98, 101, 114, 68, 111, 117, 98, 108, 101]⟩ it true).size ≤ 1000 := by have := (esv_size ⟨#[110, 117, 109, 98, 101, 114, 68, 111, 117, 98, 108, 101]⟩ it true).2; have e3 : (⟨#[110, 117, 109, 98, 101, 114, 68, 111, 117, 98, 108, 101]⟩ : ByteArray).size = 12 := rfl; omega
  have HW := Lib.hid h
  have HF := Lib.hid (Fr.refl gw gs bv w)
  have HWS := HW
  have HT := Lib.hid hT
  have HM := Lib.hid hm
  clear h hT hm
  cases can with
  | true =>
    have hT0 : dblTxt true it = (esv ⟨#[110, 117, 109, 98, 101, 114, 68, 111, 117, 98, 108, 101]⟩ it true).data.toList := rfl
    rw [hT0]
    go_enter Tryz.func53, Tryz.ntmps53
    go_wp2_with (first | (go_at_call 22; refine (HW.out.fensure HF.out HM.out _ _ _).mono ?_; rintro e1 w1 ⟨rfl, hw1, hf1⟩; clear HW HF c0 c1 c2 c3 c4 c5 c6 cf; have HW := Lib.hid hw1; have HF := Lib.hid hf1; clear hw1 hf1; obtain ⟨c0, c1, c2, c3, c4, c5, c6, cf⟩ := wcell HW.out.blk) | (go_at_call 77; refine (HI.out _ (Tabs.wr HT.out HWS.out HF.out hB)).mono ?_; rintro e1 w1 ⟨rfl, hb1⟩; have hw1 := HW.out.bel hb1; have hf1 := HF.out.bel hb1; clear hb1; clear HW HF c0 c1 c2 c3 c4 c5 c6 cf; have HW := Lib.hid hw1; have HF := Lib.hid hf1; clear hw1 hf1; obtain ⟨c0, c1, c2, c3, c4, c5, c6, cf⟩ := wcell HW.out.blk) | (go_at_call 78; refine (HW.out.fesv HF.out _ _ _ (by first | decide | omega) (by first | decide | omega) (by first | omega | (simp only [List.length_append, data_length, List.length_cons, List.length_nil]; omega))).mono ?_; rintro e1 w1 ⟨rfl, bv1, gs1, n1, cap1, hw1, hf1⟩; clear HW HF c0 c1 c2 c3 c4 c5 c6 cf; have HW := Lib.hid hw1; have HF := Lib.hid hf1; clear hw1 hf1; obtain ⟨c0, c1, c2, c3, c4, c5, c6, cf⟩ := wcell HW.out.blk) | ((with_reducible refine wpList_at (some 47) ?_); refine wpList_wr_append HW.out HF.out ((Below.refl _ _).alloc (Nat.le_refl _) _) rfl _ _ rfl rfl ⟨_, 0, none⟩ 1 _ [44] rfl rfl (news_one _ 44) (by decide) (by first | omega | (simp only [List.length_append, data_length, List.length_cons, List.length_nil]; omega)) ?_; intro g1 ln1 cp1 w1 hg hw1 hf1; have hcc := wcell (hg.trans HW.out.blk); clear HW HF c0 c1 c2 c3 c4 c5 c6 cf hg; have HW := hw1; have HF := hf1; clear hw1 hf1; obtain ⟨c0, c1, c2, c3, c4, c5, c6, cf⟩ := hcc) | (go_at_call 46; refine (HW.out.fpop1 HF.out HM.out).mono ?_; rintro e1 w1 ⟨rfl, bv1, gs1, n1, cap1, hw1, hf1⟩; clear HW HF c0 c1 c2 c3 c4 c5 c6 cf; have HW := Lib.hid hw1; have HF := Lib.hid hf1; clear hw1 hf1; obtain ⟨c0, c1, c2, c3, c4, c5, c6, cf⟩ := wcell HW.out.blk))
    go_ret
    exact ⟨rfl, _, _, _, _, HW.out, HF.out⟩
  | false =>
    by_cases hInfinity : it = ⟨#[73, 110, 102, 105, 110, 105, 116, 121]⟩
    · subst hInfinity
      have hT1 : dblTxt false ⟨#[73, 110, 102, 105, 110, 105, 116, 121]⟩ = (⟨#[123, 34, 36, 110, 117, 109, 98, 101, 114, 68, 111, 117, 98, 108, 101, 34, 58, 34, 73, 110, 102, 105, 110, 105, 116, 121, 34, 125]⟩ : ByteArray).data.toList := by simp [dblTxt]
      rw [hT1]
      clear hT1
      go_enter Tryz.func53, Tryz.ntmps53
      go_upto_region 13 with (first | (go_at_call 22; refine (HW.out.fensure HF.out HM.out _ _ _).mono ?_; rintro e1 w1 ⟨rfl, hw1, hf1⟩; clear HW HF c0 c1 c2 c3 c4 c5 c6 cf; have HW := Lib.hid hw1; have HF := Lib.hid hf1; clear hw1 hf1; obtain ⟨c0, c1, c2, c3, c4, c5, c6, cf⟩ := wcell HW.out.blk) | (go_at_call 77; refine (HI.out _ (Tabs.wr HT.out HWS.out HF.out hB)).mono ?_; rintro e1 w1 ⟨rfl, hb1⟩; have hw1 := HW.out.bel hb1; have hf1 := HF.out.bel hb1; clear hb1; clear HW HF c0 c1 c2 c3 c4 c5 c6 cf; have HW := Lib.hid hw1; have HF := Lib.hid hf1; clear hw1 hf1; obtain ⟨c0, c1, c2, c3, c4, c5, c6, cf⟩ := wcell HW.out.blk) | ((with_reducible refine wpList_at (some 47) ?_); refine wpList_wr_append HW.out HF.out ((Below.refl _ _).alloc (Nat.le_refl _) _) rfl _ _ rfl rfl ⟨_, 0, none⟩ 1 _ [44] rfl rfl (news_one _ 44) (by decide) (by first | omega | (simp only [List.length_append, data_length, List.length_cons, List.length_nil]; omega)) ?_; intro g1 ln1 cp1 w1 hg hw1 hf1; have hcc := wcell (hg.trans HW.out.blk); clear HW HF c0 c1 c2 c3 c4 c5 c6 cf hg; have HW := hw1; have HF := hf1; clear hw1 hf1; obtain ⟨c0, c1, c2, c3, c4, c5, c6, cf⟩ := hcc) | (go_at_call 46; refine (HW.out.fpop1 HF.out HM.out).mono ?_; rintro e1 w1 ⟨rfl, bv1, gs1, n1, cap1, hw1, hf1⟩; clear HW HF c0 c1 c2 c3 c4 c5 c6 cf; have HW := Lib.hid hw1; have HF := Lib.hid hf1; clear hw1 hf1; obtain ⟨c0, c1, c2, c3, c4, c5, c6, cf⟩ := wcell HW.out.blk) | ((with_reducible refine wpList_at (some 38) ?_); refine wpList_wr_append HW.out HF.out (bytes_below _ _) rfl _ _ rfl rfl ⟨_, 0, none⟩ _ _ (⟨#[123, 34, 36, 110, 117, 109, 98, 101, 114, 68, 111, 117, 98, 108, 101, 34, 58, 34, 73, 110, 102, 105, 110, 105, 116, 121, 34, 125]⟩ : ByteArray).data.toList rfl rfl (news_str _ _) (by decide) (by first | omega | (simp only [List.length_append, data_length, List.length_cons, List.length_nil]; omega)) ?_; intro g1 ln1 cp1 w1 hg hw1 hf1; have hcc := wcell (hg.trans HW.out.blk); clear HW HF c0 c1 c2 c3 c4 c5 c6 cf hg; have HW := hw1; have HF := hf1; clear hw1 hf1; obtain ⟨c0, c1, c2, c3, c4, c5, c6, cf⟩ := hcc))
      try
        generalize w1.setCell ⟨gw, 1, none⟩ (.slice (some ⟨g1, 0, none⟩) ln1 cp1) = W2 at HW HF ⊢
        clear c0 c1 c2 c3 c4 c5 c6 cf
        obtain ⟨c0, c1, c2, c3, c4, c5, c6, cf⟩ := wcell HW.out.blk
      go_wp2_with (first | (go_at_call 22; refine (HW.out.fensure HF.out HM.out _ _ _).mono ?_; rintro e1 w1 ⟨rfl, hw1, hf1⟩; clear HW HF c0 c1 c2 c3 c4 c5 c6 cf; have HW := Lib.hid hw1; have HF := Lib.hid hf1; clear hw1 hf1; obtain ⟨c0, c1, c2, c3, c4, c5, c6, cf⟩ := wcell HW.out.blk) | (go_at_call 77; refine (HI.out _ (Tabs.wr HT.out HWS.out HF.out hB)).mono ?_; rintro e1 w1 ⟨rfl, hb1⟩; have hw1 := HW.out.bel hb1; have hf1 := HF.out.bel hb1; clear hb1; clear HW HF c0 c1 c2 c3 c4 c5 c6 cf; have HW := Lib.hid hw1; have HF := Lib.hid hf1; clear hw1 hf1; obtain ⟨c0, c1, c2, c3, c4, c5, c6, cf⟩ := wcell HW.out.blk) | ((with_reducible refine wpList_at (some 47) ?_); refine wpList_wr_append HW.out HF.out ((Below.refl _ _).alloc (Nat.le_refl _) _) rfl _ _ rfl rfl ⟨_, 0, none⟩ 1 _ [44] rfl rfl (news_one _ 44) (by decide) (by first | omega | (simp only [List.length_append, data_length, List.length_cons, List.length_nil]; omega)) ?_; intro g1 ln1 cp1 w1 hg hw1 hf1; have hcc := wcell (hg.trans HW.out.blk); clear HW HF c0 c1 c2 c3 c4 c5 c6 cf hg; have HW := hw1; have HF := hf1; clear hw1 hf1; obtain ⟨c0, c1, c2, c3, c4, c5, c6, cf⟩ := hcc) | (go_at_call 46; refine (HW.out.fpop1 HF.out HM.out).mono ?_; rintro e1 w1 ⟨rfl, bv1, gs1, n1, cap1, hw1, hf1⟩; clear HW HF c0 c1 c2 c3 c4 c5 c6 cf; have HW := Lib.hid hw1; have HF := Lib.hid hf1; clear hw1 hf1; obtain ⟨c0, c1, c2, c3, c4, c5, c6, cf⟩ := wcell HW.out.blk) | ((with_reducible refine wpList_at (some 38) ?_); refine wpList_wr_append HW.out HF.out (bytes_below _ _) rfl _ _ rfl rfl ⟨_, 0, none⟩ _ _ (⟨#[123, 34, 36, 110, 117, 109, 98, 101, 114, 68, 111, 117, 98, 108, 101, 34, 58, 34, 73, 110, 102, 105, 110, 105, 116, 121, 34, 125]⟩ : ByteArray).data.toList rfl rfl (news_str _ _) (by decide) (by first | omega | (simp only [List.length_append, data_length, List.length_cons, List.length_nil]; omega)) ?_; intro g1 ln1 cp1 w1 hg hw1 hf1; have hcc := wcell (hg.trans HW.out.blk); clear HW HF c0 c1 c2 c3 c4 c5 c6 cf hg; have HW := hw1; have HF := hf1; clear hw1 hf1; obtain ⟨c0, c1, c2, c3, c4, c5, c6, cf⟩ := hcc))
      go_ret
      exact ⟨rfl, _, _, _, _, HW.out, HF.out⟩
    by_cases hmInfinity : it = ⟨#[45, 73, 110, 102, 105, 110, 105, 116, 121]⟩
    · subst hmInfinity
      have hT1 : dblTxt false ⟨#[45, 73, 110, 102, 105, 110, 105, 116, 121]⟩ = (⟨#[123, 34, 36, 110, 117, 109, 98, 101, 114, 68, 111, 117, 98, 108, 101, 34, 58, 34, 45, 73, 110, 102, 105, 110, 105, 116, 121, 34, 125]⟩ : ByteArray).data.toList := by simp [dblTxt]
      rw [hT1]
      clear hT1
      go_enter Tryz.func53, Tryz.ntmps53
      go_upto_region 13 with (first | (go_at_call 22; refine (HW.out.fensure HF.out HM.out _ _ _).mono ?_; rintro e1 w1 ⟨rfl, hw1, hf1⟩; clear HW HF c0 c1 c2 c3 c4 c5 c6 cf; have HW := Lib.hid hw1; have HF := Lib.hid hf1; clear hw1 hf1; obtain ⟨c0, c1, c2, c3, c4, c5, c6, cf⟩ := wcell HW.out.blk) | (go_at_call 77; refine (HI.out _ (Tabs.wr HT.out HWS.out HF.out hB)).mono ?_; rintro e1 w1 ⟨rfl, hb1⟩; have hw1 := HW.out.bel hb1; have hf1 := HF.out.bel hb1; clear hb1; clear HW HF c0 c1 c2 c3 c4 c5 c6 cf; have HW := Lib.hid hw1; have HF := Lib.hid hf1; clear hw1 hf1; obtain ⟨c0, c1, c2, c3, c4, c5, c6, cf⟩ := wcell HW.out.blk) | ((with_reducible refine wpList_at (some 47) ?_); refine wpList_wr_append HW.out HF.out ((Below.refl _ _).alloc (Nat.le_refl _) _) rfl _ _ rfl rfl ⟨_, 0, none⟩ 1 _ [44] rfl rfl (news_one _ 44) (by decide) (by first | omega | (simp only [List.length_append, data_length, List.length_cons, List.length_nil]; omega)) ?_; intro g1 ln1 cp1 w1 hg hw1 hf1; have hcc := wcell (hg.trans HW.out.blk); clear HW HF c0 c1 c2 c3 c4 c5 c6 cf hg; have HW := hw1; have HF := hf1; clear hw1 hf1; obtain ⟨c0, c1, c2, c3, c4, c5, c6, cf⟩ := hcc) | (go_at_call 46; refine (HW.out.fpop1 HF.out HM.out).mono ?_; rintro e1 w1 ⟨rfl, bv1, gs1, n1, cap1, hw1, hf1⟩; clear HW HF c0 c1 c2 c3 c4 c5 c6 cf; have HW := Lib.hid hw1; have HF := Lib.hid hf1; clear hw1 hf1; obtain ⟨c0, c1, c2, c3, c4, c5, c6, cf⟩ := wcell HW.out.blk) | ((with_reducible refine wpList_at (some 38) ?_); refine wpList_wr_append HW.out HF.out (bytes_below _ _) rfl _ _ rfl rfl ⟨_, 0, none⟩ _ _ (⟨#[123, 34, 36, 110, 117, 109, 98, 101, 114, 68, 111, 117, 98, 108, 101, 34, 58, 34, 45, 73, 110, 102, 105, 110, 105, 116, 121, 34, 125]⟩ : ByteArray).data.toList rfl rfl (news_str _ _) (by decide) (by first | omega | (simp only [List.length_append, data_length, List.length_cons, List.length_nil]; omega)) ?_; intro g1 ln1 cp1 w1 hg hw1 hf1; have hcc := wcell (hg.trans HW.out.blk); clear HW HF c0 c1 c2 c3 c4 c5 c6 cf hg; have HW := hw1; have HF := hf1; clear hw1 hf1; obtain ⟨c0, c1, c2, c3, c4, c5, c6, cf⟩ := hcc))
      try
        generalize w1.setCell ⟨gw, 1, none⟩ (.slice (some ⟨g1, 0, none⟩) ln1 cp1) = W2 at HW HF ⊢
        clear c0 c1 c2 c3 c4 c5 c6 cf
        obtain ⟨c0, c1, c2, c3, c4, c5, c6, cf⟩ := wcell HW.out.blk
      go_wp2_with (first | (go_at_call 22; refine (HW.out.fensure HF.out HM.out _ _ _).mono ?_; rintro e1 w1 ⟨rfl, hw1, hf1⟩; clear HW HF c0 c1 c2 c3 c4 c5 c6 cf; have HW := Lib.hid hw1; have HF := Lib.hid hf1; clear hw1 hf1; obtain ⟨c0, c1, c2, c3, c4, c5, c6, cf⟩ := wcell HW.out.blk) | (go_at_call 77; refine (HI.out _ (Tabs.wr HT.out HWS.out HF.out hB)).mono ?_; rintro e1 w1 ⟨rfl, hb1⟩; have hw1 := HW.out.bel hb1; have hf1 := HF.out.bel hb1; clear hb1; clear HW HF c0 c1 c2 c3 c4 c5 c6 cf; have HW := Lib.hid hw1; have HF := Lib.hid hf1; clear hw1 hf1; obtain ⟨c0, c1, c2, c3, c4, c5, c6, cf⟩ := wcell HW.out.blk) | ((with_reducible refine wpList_at (some 47) ?_); refine wpList_wr_append HW.out HF.out ((Below.refl _ _).alloc (Nat.le_refl _) _) rfl _ _ rfl rfl ⟨_, 0, none⟩ 1 _ [44] rfl rfl (news_one _ 44) (by decide) (by first | omega | (simp only [List.length_append, data_length, List.length_cons, List.length_nil]; omega)) ?_; intro g1 ln1 cp1 w1 hg hw1 hf1; have hcc := wcell (hg.trans HW.out.blk); clear HW HF c0 c1 c2 c3 c4 c5 c6 cf hg; have HW := hw1; have HF := hf1; clear hw1 hf1; obtain ⟨c0, c1, c2, c3, c4, c5, c6, cf⟩ := hcc) | (go_at_call 46; refine (HW.out.fpop1 HF.out HM.out).mono ?_; rintro e1 w1 ⟨rfl, bv1, gs1, n1, cap1, hw1, hf1⟩; clear HW HF c0 c1 c2 c3 c4 c5 c6 cf; have HW := Lib.hid hw1; have HF := Lib.hid hf1; clear hw1 hf1; obtain ⟨c0, c1, c2, c3, c4, c5, c6, cf⟩ := wcell HW.out.blk) | ((with_reducible refine wpList_at (some 38) ?_); refine wpList_wr_append HW.out HF.out (bytes_below _ _) rfl _ _ rfl rfl ⟨_, 0, none⟩ _ _ (⟨#[123, 34, 36, 110, 117, 109, 98, 101, 114, 68, 111, 117, 98, 108, 101, 34, 58, 34, 45, 73, 110, 102, 105, 110, 105, 116, 121, 34, 125]⟩ : ByteArray).data.toList rfl rfl (news_str _ _) (by decide) (by first | omega | (simp only [List.length_append, data_length, List.length_cons, List.length_nil]; omega)) ?_; intro g1 ln1 cp1 w1 hg hw1 hf1; have hcc := wcell (hg.trans HW.out.blk); clear HW HF c0 c1 c2 c3 c4 c5 c6 cf hg; have HW := hw1; have HF := hf1; clear hw1 hf1; obtain ⟨c0, c1, c2, c3, c4, c5, c6, cf⟩ := hcc))
      go_ret
      exact ⟨rfl, _, _, _, _, HW.out, HF.out⟩
    by_cases hNaN : it = ⟨#[78, 97, 78]⟩
    · subst hNaN
      have hT1 : dblTxt false ⟨#[78, 97, 78]⟩ = (⟨#[123, 34, 36, 110, 117, 109, 98, 101, 114, 68, 111, 117, 98, 108, 101, 34, 58, 34, 78, 97, 78, 34, 125]⟩ : ByteArray).data.toList := by simp [dblTxt]
      rw [hT1]
      clear hT1
      go_enter Tryz.func53, Tryz.ntmps53
      go_upto_region 13 with (first | (go_at_call 22; refine (HW.out.fensure HF.out HM.out _ _ _).mono ?_; rintro e1 w1 ⟨rfl, hw1, hf1⟩; clear HW HF c0 c1 c2 c3 c4 c5 c6 cf; have HW := Lib.hid hw1; have HF := Lib.hid hf1; clear hw1 hf1; obtain ⟨c0, c1, c2, c3, c4, c5, c6, cf⟩ := wcell HW.out.blk) | (go_at_call 77; refine (HI.out _ (Tabs.wr HT.out HWS.out HF.out hB)).mono ?_; rintro e1 w1 ⟨rfl, hb1⟩; have hw1 := HW.out.bel hb1; have hf1 := HF.out.bel hb1; clear hb1; clear HW HF c0 c1 c2 c3 c4 c5 c6 cf; have HW := Lib.hid hw1; have HF := Lib.hid hf1; clear hw1 hf1; obtain ⟨c0, c1, c2, c3, c4, c5, c6, cf⟩ := wcell HW.out.blk) | ((with_reducible refine wpList_at (some 47) ?_); refine wpList_wr_append HW.out HF.out ((Below.refl _ _).alloc (Nat.le_refl _) _) rfl _ _ rfl rfl ⟨_, 0, none⟩ 1 _ [44] rfl rfl (news_one _ 44) (by decide) (by first | omega | (simp only [List.length_append, data_length, List.length_cons, List.length_nil]; omega)) ?_; intro g1 ln1 cp1 w1 hg hw1 hf1; have hcc := wcell (hg.trans HW.out.blk); clear HW HF c0 c1 c2 c3 c4 c5 c6 cf hg; have HW := hw1; have HF := hf1; clear hw1 hf1; obtain ⟨c0, c1, c2, c3, c4, c5, c6, cf⟩ := hcc) | (go_at_call 46; refine (HW.out.fpop1 HF.out HM.out).mono ?_; rintro e1 w1 ⟨rfl, bv1, gs1, n1, cap1, hw1, hf1⟩; clear HW HF c0 c1 c2 c3 c4 c5 c6 cf; have HW := Lib.hid hw1; have HF := Lib.hid hf1; clear hw1 hf1; obtain ⟨c0, c1, c2, c3, c4, c5, c6, cf⟩ := wcell HW.out.blk) | ((with_reducible refine wpList_at (some 38) ?_); refine wpList_wr_append HW.out HF.out (bytes_below _ _) rfl _ _ rfl rfl ⟨_, 0, none⟩ _ _ (⟨#[123, 34, 36, 110, 117, 109, 98, 101, 114, 68, 111, 117, 98, 108, 101, 34, 58, 34, 78, 97, 78, 34, 125]⟩ : ByteArray).data.toList rfl rfl (news_str _ _) (by decide) (by first | omega | (simp only [List.length_append, data_length, List.length_cons, List.length_nil]; omega)) ?_; intro g1 ln1 cp1 w1 hg hw1 hf1; have hcc := wcell (hg.trans HW.out.blk); clear HW HF c0 c1 c2 c3 c4 c5 c6 cf hg; have HW := hw1; have HF := hf1; clear hw1 hf1; obtain ⟨c0, c1, c2, c3, c4, c5, c6, cf⟩ := hcc))
      try
        generalize w1.setCell ⟨gw, 1, none⟩ (.slice (some ⟨g1, 0, none⟩) ln1 cp1) = W2 at HW HF ⊢
        clear c0 c1 c2 c3 c4 c5 c6 cf
        obtain ⟨c0, c1, c2, c3, c4, c5, c6, cf⟩ := wcell HW.out.blk
      go_wp2_with (first | (go_at_call 22; refine (HW.out.fensure HF.out HM.out _ _ _).mono ?_; rintro e1 w1 ⟨rfl, hw1, hf1⟩; clear HW HF c0 c1 c2 c3 c4 c5 c6 cf; have HW := Lib.hid hw1; have HF := Lib.hid hf1; clear hw1 hf1; obtain ⟨c0, c1, c2, c3, c4, c5, c6, cf⟩ := wcell HW.out.blk) | (go_at_call 77; refine (HI.out _ (Tabs.wr HT.out HWS.out HF.out hB)).mono ?_; rintro e1 w1 ⟨rfl, hb1⟩; have hw1 := HW.out.bel hb1; have hf1 := HF.out.bel hb1; clear hb1; clear HW HF c0 c1 c2 c3 c4 c5 c6 cf; have HW := Lib.hid hw1; have HF := Lib.hid hf1; clear hw1 hf1; obtain ⟨c0, c1, c2, c3, c4, c5, c6, cf⟩ := wcell HW.out.blk) | ((with_reducible refine wpList_at (some 47) ?_); refine wpList_wr_append HW.out HF.out ((Below.refl _ _).alloc (Nat.le_refl _) _) rfl _ _ rfl rfl ⟨_, 0, none⟩ 1 _ [44] rfl rfl (news_one _ 44) (by decide) (by first | omega | (simp only [List.length_append, data_length, List.length_cons, List.length_nil]; omega)) ?_; intro g1 ln1 cp1 w1 hg hw1 hf1; have hcc := wcell (hg.trans HW.out.blk); clear HW HF c0 c1 c2 c3 c4 c5 c6 cf hg; have HW := hw1; have HF := hf1; clear hw1 hf1; obtain ⟨c0, c1, c2, c3, c4, c5, c6, cf⟩ := hcc) | (go_at_call 46; refine (HW.out.fpop1 HF.out HM.out).mono ?_; rintro e1 w1 ⟨rfl, bv1, gs1, n1, cap1, hw1, hf1⟩; clear HW HF c0 c1 c2 c3 c4 c5 c6 cf; have HW := Lib.hid hw1; have HF := Lib.hid hf1; clear hw1 hf1; obtain ⟨c0, c1, c2, c3, c4, c5, c6, cf⟩ := wcell HW.out.blk) | ((with_reducible refine wpList_at (some 38) ?_); refine wpList_wr_append HW.out HF.out (bytes_below _ _) rfl _ _ rfl rfl ⟨_, 0, none⟩ _ _ (⟨#[123, 34, 36, 110, 117, 109, 98, 101, 114, 68, 111, 117, 98, 108, 101, 34, 58, 34, 78, 97, 78, 34, 125]⟩ : ByteArray).data.toList rfl rfl (news_str _ _) (by decide) (by first | omega | (simp only [List.length_append, data_length, List.length_cons, List.length_nil]; omega)) ?_; intro g1 ln1 cp1 w1 hg hw1 hf1; have hcc := wcell (hg.trans HW.out.blk); clear HW HF c0 c1 c2 c3 c4 c5 c6 cf hg; have HW := hw1; have HF := hf1; clear hw1 hf1; obtain ⟨c0, c1, c2, c3, c4, c5, c6, cf⟩ := hcc))
      go_ret
      exact ⟨rfl, _, _, _, _, HW.out, HF.out⟩
    have q1 := txt_ne [73, 110, 102, 105, 110, 105, 116, 121] rfl hInfinity
    have q2 := txt_ne [45, 73, 110, 102, 105, 110, 105, 116, 121] rfl hmInfinity
    have q3 := txt_ne [78, 97, 78] rfl hNaN
    have hT1 : dblTxt false it = it.data.toList := by simp only [dblTxt, Bool.false_eq_true, if_false, hInfinity, hmInfinity, hNaN]
    rw [hT1]
    clear hT1 hInfinity hmInfinity hNaN
    go_enter Tryz.func53, Tryz.ntmps53
    go_upto_region 13 with (first | (go_at_call 22; refine (HW.out.fensure HF.out HM.out _ _ _).mono ?_; rintro e1 w1 ⟨rfl, hw1, hf1⟩; clear HW HF c0 c1 c2 c3 c4 c5 c6 cf; have HW := Lib.hid hw1; have HF := Lib.hid hf1; clear hw1 hf1; obtain ⟨c0, c1, c2, c3, c4, c5, c6, cf⟩ := wcell HW.out.blk) | (go_at_call 77; refine (HI.out _ (Tabs.wr HT.out HWS.out HF.out hB)).mono ?_; rintro e1 w1 ⟨rfl, hb1⟩; have hw1 := HW.out.bel hb1; have hf1 := HF.out.bel hb1; clear hb1; clear HW HF c0 c1 c2 c3 c4 c5 c6 cf; have HW := Lib.hid hw1; have HF := Lib.hid hf1; clear hw1 hf1; obtain ⟨c0, c1, c2, c3, c4, c5, c6, cf⟩ := wcell HW.out.blk) | ((with_reducible refine wpList_at (some 47) ?_); refine wpList_wr_append HW.out HF.out ((Below.refl _ _).alloc (Nat.le_refl _) _) rfl _ _ rfl rfl ⟨_, 0, none⟩ 1 _ [44] rfl rfl (news_one _ 44) (by decide) (by first | omega | (simp only [List.length_append, data_length, List.length_cons, List.length_nil]; omega)) ?_; intro g1 ln1 cp1 w1 hg hw1 hf1; have hcc := wcell (hg.trans HW.out.blk); clear HW HF c0 c1 c2 c3 c4 c5 c6 cf hg; have HW := hw1; have HF := hf1; clear hw1 hf1; obtain ⟨c0, c1, c2, c3, c4, c5, c6, cf⟩ := hcc) | (go_at_call 46; refine (HW.out.fpop1 HF.out HM.out).mono ?_; rintro e1 w1 ⟨rfl, bv1, gs1, n1, cap1, hw1, hf1⟩; clear HW HF c0 c1 c2 c3 c4 c5 c6 cf; have HW := Lib.hid hw1; have HF := Lib.hid hf1; clear hw1 hf1; obtain ⟨c0, c1, c2, c3, c4, c5, c6, cf⟩ := wcell HW.out.blk) | ((with_reducible refine wpList_at (some 38) ?_); refine wpList_wr_append HW.out HF.out (bytes_below _ _) rfl _ _ rfl rfl ⟨_, 0, none⟩ _ _ (it : ByteArray).data.toList rfl rfl (news_str _ _) (by rw [data_length]; exact hpos) (by first | omega | (simp only [List.length_append, data_length, List.length_cons, List.length_nil]; omega)) ?_; intro g1 ln1 cp1 w1 hg hw1 hf1; have hcc := wcell (hg.trans HW.out.blk); clear HW HF c0 c1 c2 c3 c4 c5 c6 cf hg; have HW := hw1; have HF := hf1; clear hw1 hf1; obtain ⟨c0, c1, c2, c3, c4, c5, c6, cf⟩ := hcc))
    try
      generalize w1.setCell ⟨gw, 1, none⟩ (.slice (some ⟨g1, 0, none⟩) ln1 cp1) = W2 at HW HF ⊢
      clear c0 c1 c2 c3 c4 c5 c6 cf
      obtain ⟨c0, c1, c2, c3, c4, c5, c6, cf⟩ := wcell HW.out.blk
    go_wp2_with (first | (go_at_call 22; refine (HW.out.fensure HF.out HM.out _ _ _).mono ?_; rintro e1 w1 ⟨rfl, hw1, hf1⟩; clear HW HF c0 c1 c2 c3 c4 c5 c6 cf; have HW := Lib.hid hw1; have HF := Lib.hid hf1; clear hw1 hf1; obtain ⟨c0, c1, c2, c3, c4, c5, c6, cf⟩ := wcell HW.out.blk) | (go_at_call 77; refine (HI.out _ (Tabs.wr HT.out HWS.out HF.out hB)).mono ?_; rintro e1 w1 ⟨rfl, hb1⟩; have hw1 := HW.out.bel hb1; have hf1 := HF.out.bel hb1; clear hb1; clear HW HF c0 c1 c2 c3 c4 c5 c6 cf; have HW := Lib.hid hw1; have HF := Lib.hid hf1; clear hw1 hf1; obtain ⟨c0, c1, c2, c3, c4, c5, c6, cf⟩ := wcell HW.out.blk) | ((with_reducible refine wpList_at (some 47) ?_); refine wpList_wr_append HW.out HF.out ((Below.refl _ _).alloc (Nat.le_refl _) _) rfl _ _ rfl rfl ⟨_, 0, none⟩ 1 _ [44] rfl rfl (news_one _ 44) (by decide) (by first | omega | (simp only [List.length_append, data_length, List.length_cons, List.length_nil]; omega)) ?_; intro g1 ln1 cp1 w1 hg hw1 hf1; have hcc := wcell (hg.trans HW.out.blk); clear HW HF c0 c1 c2 c3 c4 c5 c6 cf hg; have HW := hw1; have HF := hf1; clear hw1 hf1; obtain ⟨c0, c1, c2, c3, c4, c5, c6, cf⟩ := hcc) | (go_at_call 46; refine (HW.out.fpop1 HF.out HM.out).mono ?_; rintro e1 w1 ⟨rfl, bv1, gs1, n1, cap1, hw1, hf1⟩; clear HW HF c0 c1 c2 c3 c4 c5 c6 cf; have HW := Lib.hid hw1; have HF := Lib.hid hf1; clear hw1 hf1; obtain ⟨c0, c1, c2, c3, c4, c5, c6, cf⟩ := wcell HW.out.blk) | ((with_reducible refine wpList_at (some 38) ?_); refine wpList_wr_append HW.out HF.out (bytes_below _ _) rfl _ _ rfl rfl ⟨_, 0, none⟩ _ _ (it : ByteArray).data.toList rfl rfl (news_str _ _) (by rw [data_length]; exact hpos) (by first | omega | (simp only [List.length_append, data_length, List.length_cons, List.length_nil]; omega)) ?_; intro g1 ln1 cp1 w1 hg hw1 hf1; have hcc := wcell (hg.trans HW.out.blk); clear HW HF c0 c1 c2 c3 c4 c5 c6 cf hg; have HW := hw1; have HF := hf1; clear hw1 hf1; obtain ⟨c0, c1, c2, c3, c4, c5, c6, cf⟩ := hcc))
    go_ret
    exact ⟨rfl, _, _, _, _, HW.out, HF.out⟩
end

end Go.Proofs.YtpkfdbhpmhahaaaGreatDoor
