/- The writer: the end of the whole text. -/
import Derived.Test.YtpkfdbhpmhahaaaGreatDoorWsi
namespace Go.Proofs.YtpkfdbhpmhahaaaGreatDoor
open Go Go.RowKit
set_option linter.unusedSimpArgs false
set_option linter.unusedVariables false

section
variable {base gw : Nat} {iv : Value} {can : Bool} {bs : List UInt8} {ms0 ms1 : List Int} {m1 m2 m : Int} {pre : List UInt8} {x : UInt8} {bv : Value} {gs n cap : Nat} {w : World}
variable {B gb : Nat}
theorem Wr.src (h : Wr base gw iv can bs ms0 m bv gs n cap w) (hp : 0 < bs.length) : ∃ g cv, bv = .slice (some ⟨g, 0, none⟩) bs.length cv ∧ base ≤ g ∧ ∀ j v, (Lib.byteCells bs)[j]? = some v → w.cell? ((⟨g, 0, none⟩ : Addr).add j) = some v := by
  have hb := h.buf
  rcases hb.2 with ⟨_, h0⟩ | ⟨g, cap', cur, hv, hbb, hg, hn, hc, hs, ht⟩
  · omega
  · exact ⟨g, cap', hv, hbb, row_get' w g cur _ _ hg ht rfl⟩

theorem buffer_set {cs : List Value} {c : Array Value} {fz : Nat × Nat} (h : Lib.IsBuffer 39 5 B gb cs w) (hg : w.heap[gw]? = some (.cells c 67 fz)) (o : Nat) (v : Value) : Lib.IsBuffer 39 5 B gb cs (w.setCell ⟨gw, o, none⟩ v) := by
  obtain ⟨hB, bv', lr, hb, hr, hne⟩ := h
  have h1 : gw ≠ gb := by
    rintro rfl
    rw [hg] at hb
    cases hb
  refine ⟨hB, bv', lr, (heap_set_ne (Ne.symm h1)).trans hb, ?_, hne⟩
  refine ⟨hr.1, ?_⟩
  rcases hr.2 with e | ⟨g, cap', cur, hv, hbb, hgg, rest⟩
  · exact .inl e
  · refine .inr ⟨g, cap', cur, hv, hbb, (heap_set_ne ?_).trans hgg, rest⟩
    rintro rfl
    rw [hg] at hgg
    cases hgg

theorem kept67 {w' : World} {k : Nat} {c : Array Value} {t : TypeId} {fz : Nat × Nat} (h : Lib.OthersKept 5 (some gb) w w') (hg : w.heap[k]? = some (.cells c t fz)) (hk : k ≠ gb) (ht : t ≠ 5) : w'.heap[k]? = some (.cells c t fz) :=
  h k _ hg (fun e => hk (by cases e; rfl)) (fun c2 f2 e => ht (by cases e; rfl))

theorem Wr.below {gs' : Nat} {bv' : Value} {w' : World} (h : Wr base gw iv can bs ms0 m bv gs n cap w) (hf : Fr gw gs bv w gs' bv' w') (hB : B ≤ base) : Below B w w' :=
  ⟨hf.1.os, hf.1.tape, hf.1.output, hf.1.size, fun k hk => by
    have h1 := h.lt
    have h2 := h.hgw
    have h3 := h.hgs
    exact hf.1.block k (by omega) (by omega) (by omega) (fun e => by have := (h1.2.2.1 k e).1; omega)⟩
theorem fresh_buf (hB : B ≤ gb) (h : w.heap[gb]? = some (.cells #[.slice none 0 0, .int .i64 0, .int .i8 0] 39 (0, 0))) : Lib.IsBuffer 39 5 B gb [] w :=
  ⟨hB, .slice none 0 0, 0, h, World.ownsRow_nil _ _ _ _, by simp [Value.ownBlock]⟩

theorem Wr.blocks (h : Wr base gw iv can bs ms0 m bv gs n cap w) : w.heap[gw]? = some (.cells (wcells iv bv (.slice (some ⟨gs, 0, none⟩) n cap) (ms0.length : Nat) can) 67 (0, 0)) ∧ (∃ cur : List Value, w.heap[gs]? = some (.cells cur.toArray 64 (0, 0)) ∧ cur[ms0.length]? = some (.int .i64 m)) ∧ ms0.length < n ∧ gs ≠ gw := by
  obtain ⟨cur, hc, _, _, h6, _⟩ := h.stk
  exact ⟨h.blk, ⟨cur, hc, h6⟩, h.nle, h.ne1⟩

set_option maxRecDepth 100000 in
set_option maxHeartbeats 1000000 in
theorem pop0w {k : Nat} (hb : w.heap[gw]? = some (.cells (wcells iv bv (.slice (some ⟨gs, 0, none⟩) n cap) (k : Nat) can) 67 (0, 0))) (hs : ∃ cur : List Value, w.heap[gs]? = some (.cells cur.toArray 64 (0, 0)) ∧ cur[k]? = some (.int .i64 1)) (hk : k < n) :
    Calls Tryz.prog 46 #[.pointer (some ⟨gw, 0, none⟩)] w (fun e w' => e = .returned (.tuple #[]) ∧ ∃ q, w' = w.drewN q) := by
  obtain ⟨c0, c1, c2, c3, c4, c5, c6, cf⟩ := wcell hb
  obtain ⟨cur, hc, hc2⟩ := hs
  have t0 : w.cell? ⟨gs, k, none⟩ = some (.int .i64 1) := by simp [World.cell?, hc, hc2]
  have tf : ∀ o, w.frozen? ⟨gs, o, none⟩ = false := fun o => by simp [World.frozen?, hc]
  have hf0 : (0 : Int) ≤ (k : Nat) := by omega
  have hf1 : ((k : Nat) : Int) < (n : Nat) := by omega
  clear hb hc hc2
  go_enter Tryz.func46, Tryz.ntmps46
  go_wp2
  go_quiet (fail)
  go_wp2
  go_end0
  exact ⟨rfl, _, rfl⟩


set_option maxRecDepth 100000 in
set_option maxHeartbeats 4000000 in
theorem Wr.wDocEnd1 {gB : Nat} (h : Wr base gw (.iface 42 (.pointer (some ⟨gB, 0, none⟩))) can (pre ++ [x]) ms0 1 bv gs n cap w) (hB : 13 ≤ base) (hT : Tabs w) (hbl : pre.length ≤ 800000000) (hd : ms0.length ≤ 700) (hgb : gB < base) (hBg : B ≤ gB) (hgc : w.heap[gB]? = some (.cells #[.slice none 0 0, .int .i64 0, .int .i8 0] 39 (0, 0))) :
    Calls Tryz.prog 26 #[.pointer (some ⟨gw, 0, none⟩)] w (fun e w' => e = .returned .nilIface ∧ Lib.IsBuffer 39 5 B gB (Lib.byteCells (closeB pre x 125 ++ [10])) w' ∧ Below B w w') := by
  obtain ⟨c0, c1, c2, c3, c4, c5, c6, cf⟩ := wcell h.blk
  obtain ⟨t0, tf⟩ := h.top
  have hn1 := h.nle
  have kc := fun (W : World) (s : ByteArray) => run_conv_bytes W s
  have HW := Lib.hid h
  have HF := Lib.hid (Fr.refl gw gs bv w)
  have HWS := HW
  have HT := Lib.hid hT
  have HD : Hid (ms0.length ≤ 800) := Lib.hid (by omega)
  have hgwb : gw ≠ gB := by have := h.hgw; omega
  have hgsb : gs ≠ gB := by have := h.hgs; omega
  have hbvb : Hid (bv.ownBlock ≠ some gB) := Lib.hid (fun e => by have := (h.lt.2.2.1 gB e).1; omega)
  have HGB := Lib.hid hgc
  clear hgc
  clear h hT hd
  have hf0 : (0 : Int) ≤ (ms0.length : Nat) := by omega
  have hf1 : ((ms0.length : Nat) : Int) < (n : Nat) := by omega
  clear hn1
  obtain ⟨gb, cvb, rfl, hlc, hlf, hlv⟩ := HW.out.lastcell
  have ew : IntKind.i64.wrap (((pre.length + 1 : Nat) : Int) - 1) = (pre.length : Nat) := by rw [IntKind.wrap_i64]; omega
  have ew1 : IntKind.i64.wrap ((pre.length : Nat) : Int) = (pre.length : Nat) := by rw [IntKind.wrap_i64]; omega
  have ew2 : (0 : Int) ≤ ((pre.length : Nat) : Int) := by omega
  have ew3 : ((pre.length : Nat) : Int) < ((pre.length + 1 : Nat) : Int) := by omega
  have ew4 : ((pre.length : Nat) : Int) < ((pre.length : Nat) : Int) + 1 := by omega
  by_cases hx : x = 44
  · subst hx
    have e0 : closeB pre 44 125 = pre ++ [125] := rfl
    rw [e0]
    clear e0
    go_enter Tryz.func26, Tryz.ntmps26
    go_wp2
    go_quiet (fail)
    have hq := below_dn (Below.refl w.heap.size w) nq
    have hw1 := HW.out.bel hq
    have hf1 := HF.out.bel hq
    generalize w.drewN nq = wa at hw1 hf1 ⊢
    clear HW HF c0 c1 c2 c3 c4 c5 c6 cf hq t0 tf
    try clear hlc hlf hlv
    have HW := Lib.hid hw1
    have HF := Lib.hid hf1
    clear hw1 hf1
    obtain ⟨c0, c1, c2, c3, c4, c5, c6, cf⟩ := wcell HW.out.blk
    obtain ⟨t0, tf⟩ := HW.out.top
    obtain ⟨_, _, hbv, hlc, hlf, hlv⟩ := HW.out.lastcell
    cases hbv
    replace hlc : World.cell? _ _ = some (.int .u8 44) := hlc
    go_wp2
    go_quiet (fail)
    have hq := below_dn (Below.refl wa.heap.size wa) nq
    have hw1 := HW.out.bel hq
    have hf1 := HF.out.bel hq
    generalize wa.drewN nq = wb at hw1 hf1 ⊢
    clear HW HF c0 c1 c2 c3 c4 c5 c6 cf hq t0 tf
    try clear hlc hlf hlv
    have HW := Lib.hid hw1
    have HF := Lib.hid hf1
    clear hw1 hf1
    obtain ⟨c0, c1, c2, c3, c4, c5, c6, cf⟩ := wcell HW.out.blk
    obtain ⟨t0, tf⟩ := HW.out.top
    obtain ⟨_, _, hbv, hlc, hlf, hlv⟩ := HW.out.lastcell
    cases hbv
    replace hlc : World.cell? _ _ = some (.int .u8 44) := hlc
    go_wp2
    go_still_tail 11, (by kernel_rfl)
    go_wp2
    have hw1 : Wr base gw _ can (pre ++ [125]) ms0 1 (.slice (some ⟨gb, 0, none⟩) (pre.length + 1) cvb) gs n cap (wb.setCell ⟨gb, pre.length, none⟩ (.int .u8 125)).drew := (HW.out.setlast 125).bel (below_drew (Below.refl _ _))
    have hf1 : Fr gw gs _ w gs _ (wb.setCell ⟨gb, pre.length, none⟩ (.int .u8 125)).drew := (HF.out.setrow pre.length _).bel (below_drew (Below.refl _ _))
    generalize (wb.setCell ⟨gb, pre.length, none⟩ (.int .u8 125)).drew = wc at hw1 hf1 ⊢
    clear HW HF c0 c1 c2 c3 c4 c5 c6 cf t0 tf hlc hlf hlv
    have HW := Lib.hid hw1
    have HF := Lib.hid hf1
    clear hw1 hf1
    obtain ⟨c0, c1, c2, c3, c4, c5, c6, cf⟩ := wcell HW.out.blk
    obtain ⟨t0, tf⟩ := HW.out.top
    go_quiet (fail)
    have hq := below_dn (Below.refl wc.heap.size wc) nq
    have hw1 := HW.out.bel hq
    have hf1 := HF.out.bel hq
    generalize wc.drewN nq = wd at hw1 hf1 ⊢
    clear HW HF c0 c1 c2 c3 c4 c5 c6 cf hq t0 tf
    have HW := Lib.hid hw1
    have HF := Lib.hid hf1
    clear hw1 hf1
    obtain ⟨c0, c1, c2, c3, c4, c5, c6, cf⟩ := wcell HW.out.blk
    obtain ⟨t0, tf⟩ := HW.out.top
    go_upto_region 17 with (first | ((with_reducible refine wpList_at (some 99) ?_); refine wpList_wr_append HW.out HF.out ((Below.refl _ _).alloc (Nat.le_refl _) _) rfl _ _ rfl rfl ⟨_, 0, none⟩ 1 _ [10] rfl rfl (news_one _ 10) (by decide) (by first | omega | (simp only [List.length_append, data_length, List.length_cons, List.length_nil]; omega)) ?_; intro g1 ln1 cp1 w1 hg hw1 hf1; have hcc := wcell (hg.trans HW.out.blk); clear t0 tf; clear HW HF c0 c1 c2 c3 c4 c5 c6 cf hg; have HW := hw1; have HF := hf1; clear hw1 hf1; obtain ⟨c0, c1, c2, c3, c4, c5, c6, cf⟩ := hcc))
    generalize w1.setCell ⟨gw, 1, none⟩ (.slice (some ⟨g1, 0, none⟩) ln1 cp1) = we at HW HF ⊢
    clear c0 c1 c2 c3 c4 c5 c6 cf
    obtain ⟨c0, c1, c2, c3, c4, c5, c6, cf⟩ := wcell HW.out.blk
    obtain ⟨t0, tf⟩ := HW.out.top
    obtain ⟨gr, cvr, hbv, hgr0, hsr⟩ := HW.out.src (by simp)
    have hgr : gr ≠ gB := by omega
    cases hbv
    have hbf := fresh_buf hBg ((HF.out.1.block gB (lt_of_heap HGB.out) (Ne.symm hgwb) (Ne.symm hgsb) hbvb.out).trans HGB.out)
    have hbf2 : Lib.IsBuffer 39 5 B gB [] we.drew := Lib.IsBuffer.old hbf (below_drew (Below.refl _ _))
    have hsr2 : ∀ j v, _ → we.drew.cell? _ = some v := hsr
    have HBF := Lib.hid hbf2
    have HSR := Lib.hid hsr2
    have hbw : B ≤ we.drew.heap.size := Nat.le_trans hBg (Nat.le_of_lt hbf.lt)
    have HBW := Lib.hid hbw
    clear hbf hsr hbw hbf2 hsr2
    go_upto_region 18 with (fail)
    refine wp_region_noPanic ?_
    refine wp_region_held_drew (S := fun _ => True) (by kernel_rfl) (trivial) (fun hHeld => ?_)
    refine takeH (i := 0) (some 108) ?vq1 rfl rfl (by kernel_rfl) (by kernel_rfl) (by kernel_rfl) (fun _ _ _ h => h) (by rfl) ?yq2 (by assumption) ?rq3
    case yq2 => intro W hSw; go_simp; all_goals with_reducible rfl
    try simp only [Act.put, List.setIfInBounds_toArray, List.set_cons_zero, List.set_cons_succ]
    refine takeH (i := 1) (some 109) ?vq4 rfl rfl (by kernel_rfl) (by kernel_rfl) (by kernel_rfl) (fun _ _ _ h => h) (by rfl) ?yq5 (by assumption) ?rq6
    case yq5 => intro W hSw; go_simp; all_goals with_reducible rfl
    try simp only [Act.put, List.setIfInBounds_toArray, List.set_cons_zero, List.set_cons_succ]
    refine takeH (i := 2) (some 110) ?vq7 rfl rfl (by kernel_rfl) (by kernel_rfl) (by kernel_rfl) (fun _ _ _ h => h) (by rfl) ?yq8 (by assumption) ?rq9
    case yq8 => intro W hSw; go_simp; all_goals with_reducible rfl
    try simp only [Act.put, List.setIfInBounds_toArray, List.set_cons_zero, List.set_cons_succ]
    refine takeH (i := 4) (some 112) ?vq10 rfl rfl (by kernel_rfl) (by kernel_rfl) (by kernel_rfl) (fun _ _ _ h => h) (by rfl) ?yq11 (by assumption) ?rq12
    case yq11 => intro W hSw; go_simp; all_goals with_reducible rfl
    try simp only [Act.put, List.setIfInBounds_toArray, List.set_cons_zero, List.set_cons_succ]
    refine takeH (i := 5) (some 113) ?vq13 rfl rfl (by kernel_rfl) (by kernel_rfl) (by kernel_rfl) (fun _ _ _ h => h) (by rfl) ?yq14 (by assumption) ?rq15
    case yq14 => intro W hSw; go_simp; all_goals with_reducible rfl
    try simp only [Act.put, List.setIfInBounds_toArray, List.set_cons_zero, List.set_cons_succ]
    refine takeH (i := 6) (some 114) ?vq16 rfl rfl (by kernel_rfl) (by kernel_rfl) (by kernel_rfl) (fun _ _ _ h => h) (by rfl) ?yq17 (by assumption) ?rq18
    case yq17 => intro W hSw; go_simp; all_goals with_reducible rfl
    try simp only [Act.put, List.setIfInBounds_toArray, List.set_cons_zero, List.set_cons_succ]
    refine wpAnyH_ready (rs := [3, 7]) (by kernel_rfl) (by simp) ?_
    refine (AllReadyH.cons rfl (fun K hK => ?_) (AllReadyH.cons rfl (fun K hK => ?_) AllReadyH.nil))
    · go_simp
      refine hK.out _ _ (trivial) (fun hHeld => ?_)
      clear hK K
      try simp only [Act.put, List.setIfInBounds_toArray, List.set_cons_zero, List.set_cons_succ]
      refine takeH (i := 8) (some 116) ?vq19 rfl rfl (by kernel_rfl) (by kernel_rfl) (by kernel_rfl) (fun _ _ _ h => h) (by rfl) ?yq20 (by assumption) ?rq21
      case yq20 => intro W hSw; go_simp; all_goals with_reducible rfl
      try simp only [Act.put, List.setIfInBounds_toArray, List.set_cons_zero, List.set_cons_succ]
      refine takeH (i := 9) (some 117) ?vq22 rfl rfl (by kernel_rfl) (by kernel_rfl) (by kernel_rfl) (fun _ _ _ h => h) (by rfl) ?yq23 (by assumption) ?rq24
      case yq23 => intro W hSw; go_simp; all_goals with_reducible rfl
      try simp only [Act.put, List.setIfInBounds_toArray, List.set_cons_zero, List.set_cons_succ]
      refine wpAnyH_ready (rs := [7]) (by kernel_rfl) (by simp) ?_
      refine (AllReadyH.cons rfl (fun K hK => ?_) AllReadyH.nil)
      go_simp
      refine hK.out _ _ (trivial) (fun hHeld => ?_)
      clear hK K
      try simp only [Act.put, List.setIfInBounds_toArray, List.set_cons_zero, List.set_cons_succ]
      refine wpAnyH_ready (rs := [10]) (by kernel_rfl) (by simp) ?_
      refine (AllReadyH.cons rfl (fun K hK => ?_) AllReadyH.nil)
      go_simp
      refine (Tryz.Buffer_Write_any B gB [] (Lib.byteCells (pre ++ [125] ++ [10])) ⟨g1, 0, none⟩ _ _ _ HBF.out HBW.out (fun _ h => by cases h) (by rw [byteCells_length]; simp) hgr (fun j v h => HSR.out j v h) (byteCells_oneCell _) (by simp; omega)).mono ?_
      rintro e2 w2 ⟨rfl, hb2, hbl2, hk2⟩
      rw [List.nil_append] at hb2
      have HB2 := Lib.hid hb2
      have HL2 := Lib.hid hbl2
      have HK2 := Lib.hid hk2
      clear hb2 hbl2 hk2
      refine hK.out _ _ (trivial) (fun hHeld => ?_)
      clear hK K
      try simp only [Act.put, List.setIfInBounds_toArray, List.set_cons_zero, List.set_cons_succ]
      refine takeH (i := 11) (some 107) ?vq25 rfl rfl (by kernel_rfl) (by kernel_rfl) (by kernel_rfl) (fun _ _ _ h => h) (by rfl) ?yq26 (by assumption) ?rq27
      case yq26 => intro W hSw; go_simp; all_goals with_reducible rfl
      try simp only [Act.put, List.setIfInBounds_toArray, List.set_cons_zero, List.set_cons_succ]
      refine takeH (i := 12) (some 119) ?vq28 rfl rfl (by kernel_rfl) (by kernel_rfl) (by kernel_rfl) (fun _ _ _ h => h) (by rfl) ?yq29 (by assumption) ?rq30
      case yq29 => intro W hSw; go_simp; all_goals with_reducible rfl
      try simp only [Act.put, List.setIfInBounds_toArray, List.set_cons_zero, List.set_cons_succ]
      refine takeH (i := 13) (some 120) ?vq31 rfl rfl (by kernel_rfl) (by kernel_rfl) (by kernel_rfl) (fun _ _ _ h => h) (by rfl) ?yq32 (by assumption) ?rq33
      case yq32 => intro W hSw; go_simp; all_goals with_reducible rfl
      try simp only [Act.put, List.setIfInBounds_toArray, List.set_cons_zero, List.set_cons_succ]
      refine takeH (i := 14) (some 3) ?vq34 rfl rfl (by kernel_rfl) (by kernel_rfl) (by kernel_rfl) (fun _ _ _ h => h) (by rfl) ?yq35 (by assumption) ?rq36
      case yq35 => intro W hSw; go_simp; all_goals with_reducible rfl
      try simp only [Act.put, List.setIfInBounds_toArray, List.set_cons_zero, List.set_cons_succ]
      refine takeH (i := 15) (some 4) ?vq37 rfl rfl (by kernel_rfl) (by kernel_rfl) (by kernel_rfl) (fun _ _ _ h => h) (by rfl) ?yq38 (by assumption) ?rq39
      case yq38 => intro W hSw; go_simp; all_goals with_reducible rfl
      try simp only [Act.put, List.setIfInBounds_toArray, List.set_cons_zero, List.set_cons_succ]
      refine wpAnyH_done (by kernel_rfl) ?_ _
      refine NoPanic.normal ?_
      obtain ⟨B1, ⟨cur, B2, B3⟩, B4, B5⟩ := HW.out.blocks
      have hb0 := (HWS.out.below HF.out (Nat.le_trans hBg (Nat.le_of_lt hgb))).trans ((below_drew (Below.refl we.heap.size we)).mono HBW.out)
      have hgB : B ≤ gw := Nat.le_trans (Nat.le_trans hBg (Nat.le_of_lt hgb)) HW.out.hgw
      have G1 := kept67 HK2.out B1 hgwb (by decide)
      have G2 := kept67 HK2.out B2 hgsb (by decide)
      clear HW HF c0 c1 c2 c3 c4 c5 c6 cf t0 tf
      obtain ⟨c0, c1, c2, c3, c4, c5, c6, cf⟩ := wcell G1
      have HG := Lib.hid (And.intro G1 (And.intro G2 (And.intro B3 (And.intro B4 (And.intro B5 (And.intro (hb0.trans HL2.out) hgB))))))
      clear G1 G2 B1 B2 B3 B4 B5 hb0 hgB
      go_upto_region 22 with (fail)
      have h3 : (w2.setCell ⟨gw, 1, none⟩ (.slice (some ⟨g1, 0, none⟩) 0 cp1)).heap[gw]? = some (.cells (wcells (.iface 42 (.pointer (some ⟨gB, 0, none⟩))) (.slice (some ⟨g1, 0, none⟩) 0 cp1) (.slice (some ⟨gs, 0, none⟩) n cap) (ms0.length : Nat) can) 67 (0, 0)) := heap_set HG.out.1
      have h4 : (w2.setCell ⟨gw, 1, none⟩ (.slice (some ⟨g1, 0, none⟩) 0 cp1)).heap[gs]? = some (.cells cur.toArray 64 (0, 0)) := (heap_set_ne HG.out.2.2.2.2.1).trans HG.out.2.1
      have h5 := buffer_set HB2.out HG.out.1 1 (.slice (some ⟨g1, 0, none⟩) 0 cp1)
      have h6 : Below B w (w2.setCell ⟨gw, 1, none⟩ (.slice (some ⟨g1, 0, none⟩) 0 cp1)) := HG.out.2.2.2.2.2.1.trans ⟨rfl, rfl, rfl, by simp [World.setCell], fun k hk => heap_set_ne (by have := HG.out.2.2.2.2.2.2; omega)⟩
      have h7 := HG.out.2.2.1
      have h8 := HG.out.2.2.2.1
      generalize w2.setCell ⟨gw, 1, none⟩ (.slice (some ⟨g1, 0, none⟩) 0 cp1) = w3 at h3 h4 h5 h6 ⊢
      have H3 := Lib.hid (And.intro h3 (And.intro (⟨cur, h4, h7⟩ : ∃ cur : List Value, w3.heap[gs]? = some (.cells cur.toArray 64 (0, 0)) ∧ cur[ms0.length]? = some (.int .i64 1)) (And.intro h8 (And.intro h5 h6))))
      clear h3 h4 h5 h6 h7 h8 c0 c1 c2 c3 c4 c5 c6 cf HG
      go_wp2_with (first | (go_at_call 46; refine (pop0w H3.out.1 H3.out.2.1 H3.out.2.2.1).mono ?_; rintro e1 w4 ⟨rfl, q, rfl⟩))
      go_ret
      exact ⟨rfl, Lib.IsBuffer.old H3.out.2.2.2.1 (below_dn (Below.refl _ _) _), H3.out.2.2.2.2.trans (below_dn (Below.refl _ _) _)⟩
    · go_simp
      refine hK.out _ _ (trivial) (fun hHeld => ?_)
      clear hK K
      try simp only [Act.put, List.setIfInBounds_toArray, List.set_cons_zero, List.set_cons_succ]
      refine wpAnyH_ready (rs := [3]) (by kernel_rfl) (by simp) ?_
      refine (AllReadyH.cons rfl (fun K hK => ?_) AllReadyH.nil)
      go_simp
      refine hK.out _ _ (trivial) (fun hHeld => ?_)
      clear hK K
      try simp only [Act.put, List.setIfInBounds_toArray, List.set_cons_zero, List.set_cons_succ]
      refine takeH (i := 8) (some 116) ?vq40 rfl rfl (by kernel_rfl) (by kernel_rfl) (by kernel_rfl) (fun _ _ _ h => h) (by rfl) ?yq41 (by assumption) ?rq42
      case yq41 => intro W hSw; go_simp; all_goals with_reducible rfl
      try simp only [Act.put, List.setIfInBounds_toArray, List.set_cons_zero, List.set_cons_succ]
      refine takeH (i := 9) (some 117) ?vq43 rfl rfl (by kernel_rfl) (by kernel_rfl) (by kernel_rfl) (fun _ _ _ h => h) (by rfl) ?yq44 (by assumption) ?rq45
      case yq44 => intro W hSw; go_simp; all_goals with_reducible rfl
      try simp only [Act.put, List.setIfInBounds_toArray, List.set_cons_zero, List.set_cons_succ]
      refine wpAnyH_ready (rs := [10]) (by kernel_rfl) (by simp) ?_
      refine (AllReadyH.cons rfl (fun K hK => ?_) AllReadyH.nil)
      go_simp
      refine (Tryz.Buffer_Write_any B gB [] (Lib.byteCells (pre ++ [125] ++ [10])) ⟨g1, 0, none⟩ _ _ _ HBF.out HBW.out (fun _ h => by cases h) (by rw [byteCells_length]; simp) hgr (fun j v h => HSR.out j v h) (byteCells_oneCell _) (by simp; omega)).mono ?_
      rintro e2 w2 ⟨rfl, hb2, hbl2, hk2⟩
      rw [List.nil_append] at hb2
      have HB2 := Lib.hid hb2
      have HL2 := Lib.hid hbl2
      have HK2 := Lib.hid hk2
      clear hb2 hbl2 hk2
      refine hK.out _ _ (trivial) (fun hHeld => ?_)
      clear hK K
      try simp only [Act.put, List.setIfInBounds_toArray, List.set_cons_zero, List.set_cons_succ]
      refine takeH (i := 11) (some 107) ?vq46 rfl rfl (by kernel_rfl) (by kernel_rfl) (by kernel_rfl) (fun _ _ _ h => h) (by rfl) ?yq47 (by assumption) ?rq48
      case yq47 => intro W hSw; go_simp; all_goals with_reducible rfl
      try simp only [Act.put, List.setIfInBounds_toArray, List.set_cons_zero, List.set_cons_succ]
      refine takeH (i := 12) (some 119) ?vq49 rfl rfl (by kernel_rfl) (by kernel_rfl) (by kernel_rfl) (fun _ _ _ h => h) (by rfl) ?yq50 (by assumption) ?rq51
      case yq50 => intro W hSw; go_simp; all_goals with_reducible rfl
      try simp only [Act.put, List.setIfInBounds_toArray, List.set_cons_zero, List.set_cons_succ]
      refine takeH (i := 13) (some 120) ?vq52 rfl rfl (by kernel_rfl) (by kernel_rfl) (by kernel_rfl) (fun _ _ _ h => h) (by rfl) ?yq53 (by assumption) ?rq54
      case yq53 => intro W hSw; go_simp; all_goals with_reducible rfl
      try simp only [Act.put, List.setIfInBounds_toArray, List.set_cons_zero, List.set_cons_succ]
      refine takeH (i := 14) (some 3) ?vq55 rfl rfl (by kernel_rfl) (by kernel_rfl) (by kernel_rfl) (fun _ _ _ h => h) (by rfl) ?yq56 (by assumption) ?rq57
      case yq56 => intro W hSw; go_simp; all_goals with_reducible rfl
      try simp only [Act.put, List.setIfInBounds_toArray, List.set_cons_zero, List.set_cons_succ]
      refine takeH (i := 15) (some 4) ?vq58 rfl rfl (by kernel_rfl) (by kernel_rfl) (by kernel_rfl) (fun _ _ _ h => h) (by rfl) ?yq59 (by assumption) ?rq60
      case yq59 => intro W hSw; go_simp; all_goals with_reducible rfl
      try simp only [Act.put, List.setIfInBounds_toArray, List.set_cons_zero, List.set_cons_succ]
      refine wpAnyH_done (by kernel_rfl) ?_ _
      refine NoPanic.normal ?_
      obtain ⟨B1, ⟨cur, B2, B3⟩, B4, B5⟩ := HW.out.blocks
      have hb0 := (HWS.out.below HF.out (Nat.le_trans hBg (Nat.le_of_lt hgb))).trans ((below_drew (Below.refl we.heap.size we)).mono HBW.out)
      have hgB : B ≤ gw := Nat.le_trans (Nat.le_trans hBg (Nat.le_of_lt hgb)) HW.out.hgw
      have G1 := kept67 HK2.out B1 hgwb (by decide)
      have G2 := kept67 HK2.out B2 hgsb (by decide)
      clear HW HF c0 c1 c2 c3 c4 c5 c6 cf t0 tf
      obtain ⟨c0, c1, c2, c3, c4, c5, c6, cf⟩ := wcell G1
      have HG := Lib.hid (And.intro G1 (And.intro G2 (And.intro B3 (And.intro B4 (And.intro B5 (And.intro (hb0.trans HL2.out) hgB))))))
      clear G1 G2 B1 B2 B3 B4 B5 hb0 hgB
      go_upto_region 22 with (fail)
      have h3 : (w2.setCell ⟨gw, 1, none⟩ (.slice (some ⟨g1, 0, none⟩) 0 cp1)).heap[gw]? = some (.cells (wcells (.iface 42 (.pointer (some ⟨gB, 0, none⟩))) (.slice (some ⟨g1, 0, none⟩) 0 cp1) (.slice (some ⟨gs, 0, none⟩) n cap) (ms0.length : Nat) can) 67 (0, 0)) := heap_set HG.out.1
      have h4 : (w2.setCell ⟨gw, 1, none⟩ (.slice (some ⟨g1, 0, none⟩) 0 cp1)).heap[gs]? = some (.cells cur.toArray 64 (0, 0)) := (heap_set_ne HG.out.2.2.2.2.1).trans HG.out.2.1
      have h5 := buffer_set HB2.out HG.out.1 1 (.slice (some ⟨g1, 0, none⟩) 0 cp1)
      have h6 : Below B w (w2.setCell ⟨gw, 1, none⟩ (.slice (some ⟨g1, 0, none⟩) 0 cp1)) := HG.out.2.2.2.2.2.1.trans ⟨rfl, rfl, rfl, by simp [World.setCell], fun k hk => heap_set_ne (by have := HG.out.2.2.2.2.2.2; omega)⟩
      have h7 := HG.out.2.2.1
      have h8 := HG.out.2.2.2.1
      generalize w2.setCell ⟨gw, 1, none⟩ (.slice (some ⟨g1, 0, none⟩) 0 cp1) = w3 at h3 h4 h5 h6 ⊢
      have H3 := Lib.hid (And.intro h3 (And.intro (⟨cur, h4, h7⟩ : ∃ cur : List Value, w3.heap[gs]? = some (.cells cur.toArray 64 (0, 0)) ∧ cur[ms0.length]? = some (.int .i64 1)) (And.intro h8 (And.intro h5 h6))))
      clear h3 h4 h5 h6 h7 h8 c0 c1 c2 c3 c4 c5 c6 cf HG
      go_wp2_with (first | (go_at_call 46; refine (pop0w H3.out.1 H3.out.2.1 H3.out.2.2.1).mono ?_; rintro e1 w4 ⟨rfl, q, rfl⟩))
      go_ret
      exact ⟨rfl, Lib.IsBuffer.old H3.out.2.2.2.1 (below_dn (Below.refl _ _) _), H3.out.2.2.2.2.trans (below_dn (Below.refl _ _) _)⟩
  · have e0 : closeB pre x 125 = pre ++ [x] ++ [125] := by simp [closeB, hx]
    have hx2 : ¬ ((x.toNat : Int) = 44) := fun e => hx (UInt8.toNat_inj.1 (by simpa using (by omega : x.toNat = 44)))
    rw [e0]
    clear e0 hx
    go_enter Tryz.func26, Tryz.ntmps26
    go_wp2
    go_quiet (fail)
    have hq := below_dn (Below.refl w.heap.size w) nq
    have hw1 := HW.out.bel hq
    have hf1 := HF.out.bel hq
    generalize w.drewN nq = wa at hw1 hf1 ⊢
    clear HW HF c0 c1 c2 c3 c4 c5 c6 cf hq t0 tf
    try clear hlc hlf hlv
    have HW := Lib.hid hw1
    have HF := Lib.hid hf1
    clear hw1 hf1
    obtain ⟨c0, c1, c2, c3, c4, c5, c6, cf⟩ := wcell HW.out.blk
    obtain ⟨t0, tf⟩ := HW.out.top
    obtain ⟨_, _, hbv, hlc, hlf, hlv⟩ := HW.out.lastcell
    cases hbv
    replace hlc : World.cell? _ _ = some (.int .u8 (x.toNat : Int)) := hlc
    go_wp2
    go_quiet (fail)
    have hq := below_dn (Below.refl wa.heap.size wa) nq
    have hw1 := HW.out.bel hq
    have hf1 := HF.out.bel hq
    generalize wa.drewN nq = wb at hw1 hf1 ⊢
    clear HW HF c0 c1 c2 c3 c4 c5 c6 cf hq t0 tf
    try clear hlc hlf hlv
    have HW := Lib.hid hw1
    have HF := Lib.hid hf1
    clear hw1 hf1
    obtain ⟨c0, c1, c2, c3, c4, c5, c6, cf⟩ := wcell HW.out.blk
    obtain ⟨t0, tf⟩ := HW.out.top
    obtain ⟨_, _, hbv, hlc, hlf, hlv⟩ := HW.out.lastcell
    cases hbv
    replace hlc : World.cell? _ _ = some (.int .u8 (x.toNat : Int)) := hlc
    go_upto_region 9 with (first | ((with_reducible refine wpList_at (some 51) ?_); refine wpList_wr_append HW.out HF.out ((Below.refl _ _).alloc (Nat.le_refl _) _) rfl _ _ rfl rfl ⟨_, 0, none⟩ 1 _ [125] rfl rfl (news_one _ 125) (by decide) (by first | omega | (simp only [List.length_append, data_length, List.length_cons, List.length_nil]; omega)) ?_; intro g1 ln1 cp1 w1 hg hw1 hf1; have hcc := wcell (hg.trans HW.out.blk); clear t0 tf hlc hlf hlv; clear HW HF c0 c1 c2 c3 c4 c5 c6 cf hg; have HW := hw1; have HF := hf1; clear hw1 hf1; obtain ⟨c0, c1, c2, c3, c4, c5, c6, cf⟩ := hcc))
    generalize w1.setCell ⟨gw, 1, none⟩ (.slice (some ⟨g1, 0, none⟩) ln1 cp1) = wc at HW HF ⊢
    clear c0 c1 c2 c3 c4 c5 c6 cf
    obtain ⟨c0, c1, c2, c3, c4, c5, c6, cf⟩ := wcell HW.out.blk
    obtain ⟨t0, tf⟩ := HW.out.top
    go_quiet (fail)
    have hq := below_dn (Below.refl wc.heap.size wc) nq
    have hw1 := HW.out.bel hq
    have hf1 := HF.out.bel hq
    generalize wc.drewN nq = wd at hw1 hf1 ⊢
    clear HW HF c0 c1 c2 c3 c4 c5 c6 cf hq t0 tf
    have HW := Lib.hid hw1
    have HF := Lib.hid hf1
    clear hw1 hf1
    obtain ⟨c0, c1, c2, c3, c4, c5, c6, cf⟩ := wcell HW.out.blk
    obtain ⟨t0, tf⟩ := HW.out.top
    go_upto_region 17 with (first | ((with_reducible refine wpList_at (some 99) ?_); refine wpList_wr_append HW.out HF.out ((Below.refl _ _).alloc (Nat.le_refl _) _) rfl _ _ rfl rfl ⟨_, 0, none⟩ 1 _ [10] rfl rfl (news_one _ 10) (by decide) (by first | omega | (simp only [List.length_append, data_length, List.length_cons, List.length_nil]; omega)) ?_; intro g1 ln1 cp1 w1 hg hw1 hf1; have hcc := wcell (hg.trans HW.out.blk); clear t0 tf; clear HW HF c0 c1 c2 c3 c4 c5 c6 cf hg; have HW := hw1; have HF := hf1; clear hw1 hf1; obtain ⟨c0, c1, c2, c3, c4, c5, c6, cf⟩ := hcc))
    generalize w1.setCell ⟨gw, 1, none⟩ (.slice (some ⟨g1, 0, none⟩) ln1 cp1) = we at HW HF ⊢
    clear c0 c1 c2 c3 c4 c5 c6 cf
    obtain ⟨c0, c1, c2, c3, c4, c5, c6, cf⟩ := wcell HW.out.blk
    obtain ⟨t0, tf⟩ := HW.out.top
    obtain ⟨gr, cvr, hbv, hgr0, hsr⟩ := HW.out.src (by simp)
    have hgr : gr ≠ gB := by omega
    cases hbv
    have hbf := fresh_buf hBg ((HF.out.1.block gB (lt_of_heap HGB.out) (Ne.symm hgwb) (Ne.symm hgsb) hbvb.out).trans HGB.out)
    have hbf2 : Lib.IsBuffer 39 5 B gB [] we.drew := Lib.IsBuffer.old hbf (below_drew (Below.refl _ _))
    have hsr2 : ∀ j v, _ → we.drew.cell? _ = some v := hsr
    have HBF := Lib.hid hbf2
    have HSR := Lib.hid hsr2
    have hbw : B ≤ we.drew.heap.size := Nat.le_trans hBg (Nat.le_of_lt hbf.lt)
    have HBW := Lib.hid hbw
    clear hbf hsr hbw hbf2 hsr2
    go_upto_region 18 with (fail)
    refine wp_region_noPanic ?_
    refine wp_region_held_drew (S := fun _ => True) (by kernel_rfl) (trivial) (fun hHeld => ?_)
    refine takeH (i := 0) (some 108) ?vq61 rfl rfl (by kernel_rfl) (by kernel_rfl) (by kernel_rfl) (fun _ _ _ h => h) (by rfl) ?yq62 (by assumption) ?rq63
    case yq62 => intro W hSw; go_simp; all_goals with_reducible rfl
    try simp only [Act.put, List.setIfInBounds_toArray, List.set_cons_zero, List.set_cons_succ]
    refine takeH (i := 1) (some 109) ?vq64 rfl rfl (by kernel_rfl) (by kernel_rfl) (by kernel_rfl) (fun _ _ _ h => h) (by rfl) ?yq65 (by assumption) ?rq66
    case yq65 => intro W hSw; go_simp; all_goals with_reducible rfl
    try simp only [Act.put, List.setIfInBounds_toArray, List.set_cons_zero, List.set_cons_succ]
    refine takeH (i := 2) (some 110) ?vq67 rfl rfl (by kernel_rfl) (by kernel_rfl) (by kernel_rfl) (fun _ _ _ h => h) (by rfl) ?yq68 (by assumption) ?rq69
    case yq68 => intro W hSw; go_simp; all_goals with_reducible rfl
    try simp only [Act.put, List.setIfInBounds_toArray, List.set_cons_zero, List.set_cons_succ]
    refine takeH (i := 4) (some 112) ?vq70 rfl rfl (by kernel_rfl) (by kernel_rfl) (by kernel_rfl) (fun _ _ _ h => h) (by rfl) ?yq71 (by assumption) ?rq72
    case yq71 => intro W hSw; go_simp; all_goals with_reducible rfl
    try simp only [Act.put, List.setIfInBounds_toArray, List.set_cons_zero, List.set_cons_succ]
    refine takeH (i := 5) (some 113) ?vq73 rfl rfl (by kernel_rfl) (by kernel_rfl) (by kernel_rfl) (fun _ _ _ h => h) (by rfl) ?yq74 (by assumption) ?rq75
    case yq74 => intro W hSw; go_simp; all_goals with_reducible rfl
    try simp only [Act.put, List.setIfInBounds_toArray, List.set_cons_zero, List.set_cons_succ]
    refine takeH (i := 6) (some 114) ?vq76 rfl rfl (by kernel_rfl) (by kernel_rfl) (by kernel_rfl) (fun _ _ _ h => h) (by rfl) ?yq77 (by assumption) ?rq78
    case yq77 => intro W hSw; go_simp; all_goals with_reducible rfl
    try simp only [Act.put, List.setIfInBounds_toArray, List.set_cons_zero, List.set_cons_succ]
    refine wpAnyH_ready (rs := [3, 7]) (by kernel_rfl) (by simp) ?_
    refine (AllReadyH.cons rfl (fun K hK => ?_) (AllReadyH.cons rfl (fun K hK => ?_) AllReadyH.nil))
    · go_simp
      refine hK.out _ _ (trivial) (fun hHeld => ?_)
      clear hK K
      try simp only [Act.put, List.setIfInBounds_toArray, List.set_cons_zero, List.set_cons_succ]
      refine takeH (i := 8) (some 116) ?vq79 rfl rfl (by kernel_rfl) (by kernel_rfl) (by kernel_rfl) (fun _ _ _ h => h) (by rfl) ?yq80 (by assumption) ?rq81
      case yq80 => intro W hSw; go_simp; all_goals with_reducible rfl
      try simp only [Act.put, List.setIfInBounds_toArray, List.set_cons_zero, List.set_cons_succ]
      refine takeH (i := 9) (some 117) ?vq82 rfl rfl (by kernel_rfl) (by kernel_rfl) (by kernel_rfl) (fun _ _ _ h => h) (by rfl) ?yq83 (by assumption) ?rq84
      case yq83 => intro W hSw; go_simp; all_goals with_reducible rfl
      try simp only [Act.put, List.setIfInBounds_toArray, List.set_cons_zero, List.set_cons_succ]
      refine wpAnyH_ready (rs := [7]) (by kernel_rfl) (by simp) ?_
      refine (AllReadyH.cons rfl (fun K hK => ?_) AllReadyH.nil)
      go_simp
      refine hK.out _ _ (trivial) (fun hHeld => ?_)
      clear hK K
      try simp only [Act.put, List.setIfInBounds_toArray, List.set_cons_zero, List.set_cons_succ]
      refine wpAnyH_ready (rs := [10]) (by kernel_rfl) (by simp) ?_
      refine (AllReadyH.cons rfl (fun K hK => ?_) AllReadyH.nil)
      go_simp
      refine (Tryz.Buffer_Write_any B gB [] (Lib.byteCells (pre ++ [x] ++ [125] ++ [10])) ⟨g1, 0, none⟩ _ _ _ HBF.out HBW.out (fun _ h => by cases h) (by rw [byteCells_length]; simp) hgr (fun j v h => HSR.out j v h) (byteCells_oneCell _) (by simp; omega)).mono ?_
      rintro e2 w2 ⟨rfl, hb2, hbl2, hk2⟩
      rw [List.nil_append] at hb2
      have HB2 := Lib.hid hb2
      have HL2 := Lib.hid hbl2
      have HK2 := Lib.hid hk2
      clear hb2 hbl2 hk2
      refine hK.out _ _ (trivial) (fun hHeld => ?_)
      clear hK K
      try simp only [Act.put, List.setIfInBounds_toArray, List.set_cons_zero, List.set_cons_succ]
      refine takeH (i := 11) (some 107) ?vq85 rfl rfl (by kernel_rfl) (by kernel_rfl) (by kernel_rfl) (fun _ _ _ h => h) (by rfl) ?yq86 (by assumption) ?rq87
      case yq86 => intro W hSw; go_simp; all_goals with_reducible rfl
      try simp only [Act.put, List.setIfInBounds_toArray, List.set_cons_zero, List.set_cons_succ]
      refine takeH (i := 12) (some 119) ?vq88 rfl rfl (by kernel_rfl) (by kernel_rfl) (by kernel_rfl) (fun _ _ _ h => h) (by rfl) ?yq89 (by assumption) ?rq90
      case yq89 => intro W hSw; go_simp; all_goals with_reducible rfl
      try simp only [Act.put, List.setIfInBounds_toArray, List.set_cons_zero, List.set_cons_succ]
      refine takeH (i := 13) (some 120) ?vq91 rfl rfl (by kernel_rfl) (by kernel_rfl) (by kernel_rfl) (fun _ _ _ h => h) (by rfl) ?yq92 (by assumption) ?rq93
      case yq92 => intro W hSw; go_simp; all_goals with_reducible rfl
      try simp only [Act.put, List.setIfInBounds_toArray, List.set_cons_zero, List.set_cons_succ]
      refine takeH (i := 14) (some 3) ?vq94 rfl rfl (by kernel_rfl) (by kernel_rfl) (by kernel_rfl) (fun _ _ _ h => h) (by rfl) ?yq95 (by assumption) ?rq96
      case yq95 => intro W hSw; go_simp; all_goals with_reducible rfl
      try simp only [Act.put, List.setIfInBounds_toArray, List.set_cons_zero, List.set_cons_succ]
      refine takeH (i := 15) (some 4) ?vq97 rfl rfl (by kernel_rfl) (by kernel_rfl) (by kernel_rfl) (fun _ _ _ h => h) (by rfl) ?yq98 (by assumption) ?rq99
      case yq98 => intro W hSw; go_simp; all_goals with_reducible rfl
      try simp only [Act.put, List.setIfInBounds_toArray, List.set_cons_zero, List.set_cons_succ]
      refine wpAnyH_done (by kernel_rfl) ?_ _
      refine NoPanic.normal ?_
      obtain ⟨B1, ⟨cur, B2, B3⟩, B4, B5⟩ := HW.out.blocks
      have hb0 := (HWS.out.below HF.out (Nat.le_trans hBg (Nat.le_of_lt hgb))).trans ((below_drew (Below.refl we.heap.size we)).mono HBW.out)
      have hgB : B ≤ gw := Nat.le_trans (Nat.le_trans hBg (Nat.le_of_lt hgb)) HW.out.hgw
      have G1 := kept67 HK2.out B1 hgwb (by decide)
      have G2 := kept67 HK2.out B2 hgsb (by decide)
      clear HW HF c0 c1 c2 c3 c4 c5 c6 cf t0 tf
      obtain ⟨c0, c1, c2, c3, c4, c5, c6, cf⟩ := wcell G1
      have HG := Lib.hid (And.intro G1 (And.intro G2 (And.intro B3 (And.intro B4 (And.intro B5 (And.intro (hb0.trans HL2.out) hgB))))))
      clear G1 G2 B1 B2 B3 B4 B5 hb0 hgB
      go_upto_region 22 with (fail)
      have h3 : (w2.setCell ⟨gw, 1, none⟩ (.slice (some ⟨g1, 0, none⟩) 0 cp1)).heap[gw]? = some (.cells (wcells (.iface 42 (.pointer (some ⟨gB, 0, none⟩))) (.slice (some ⟨g1, 0, none⟩) 0 cp1) (.slice (some ⟨gs, 0, none⟩) n cap) (ms0.length : Nat) can) 67 (0, 0)) := heap_set HG.out.1
      have h4 : (w2.setCell ⟨gw, 1, none⟩ (.slice (some ⟨g1, 0, none⟩) 0 cp1)).heap[gs]? = some (.cells cur.toArray 64 (0, 0)) := (heap_set_ne HG.out.2.2.2.2.1).trans HG.out.2.1
      have h5 := buffer_set HB2.out HG.out.1 1 (.slice (some ⟨g1, 0, none⟩) 0 cp1)
      have h6 : Below B w (w2.setCell ⟨gw, 1, none⟩ (.slice (some ⟨g1, 0, none⟩) 0 cp1)) := HG.out.2.2.2.2.2.1.trans ⟨rfl, rfl, rfl, by simp [World.setCell], fun k hk => heap_set_ne (by have := HG.out.2.2.2.2.2.2; omega)⟩
      have h7 := HG.out.2.2.1
      have h8 := HG.out.2.2.2.1
      generalize w2.setCell ⟨gw, 1, none⟩ (.slice (some ⟨g1, 0, none⟩) 0 cp1) = w3 at h3 h4 h5 h6 ⊢
      have H3 := Lib.hid (And.intro h3 (And.intro (⟨cur, h4, h7⟩ : ∃ cur : List Value, w3.heap[gs]? = some (.cells cur.toArray 64 (0, 0)) ∧ cur[ms0.length]? = some (.int .i64 1)) (And.intro h8 (And.intro h5 h6))))
      clear h3 h4 h5 h6 h7 h8 c0 c1 c2 c3 c4 c5 c6 cf HG
      go_wp2_with (first | (go_at_call 46; refine (pop0w H3.out.1 H3.out.2.1 H3.out.2.2.1).mono ?_; rintro e1 w4 ⟨rfl, q, rfl⟩))
      go_ret
      exact ⟨rfl, Lib.IsBuffer.old H3.out.2.2.2.1 (below_dn (Below.refl _ _) _), H3.out.2.2.2.2.trans (below_dn (Below.refl _ _) _)⟩
    · go_simp
      refine hK.out _ _ (trivial) (fun hHeld => ?_)
      clear hK K
      try simp only [Act.put, List.setIfInBounds_toArray, List.set_cons_zero, List.set_cons_succ]
      refine wpAnyH_ready (rs := [3]) (by kernel_rfl) (by simp) ?_
      refine (AllReadyH.cons rfl (fun K hK => ?_) AllReadyH.nil)
      go_simp
      refine hK.out _ _ (trivial) (fun hHeld => ?_)
      clear hK K
      try simp only [Act.put, List.setIfInBounds_toArray, List.set_cons_zero, List.set_cons_succ]
      refine takeH (i := 8) (some 116) ?vq100 rfl rfl (by kernel_rfl) (by kernel_rfl) (by kernel_rfl) (fun _ _ _ h => h) (by rfl) ?yq101 (by assumption) ?rq102
      case yq101 => intro W hSw; go_simp; all_goals with_reducible rfl
      try simp only [Act.put, List.setIfInBounds_toArray, List.set_cons_zero, List.set_cons_succ]
      refine takeH (i := 9) (some 117) ?vq103 rfl rfl (by kernel_rfl) (by kernel_rfl) (by kernel_rfl) (fun _ _ _ h => h) (by rfl) ?yq104 (by assumption) ?rq105
      case yq104 => intro W hSw; go_simp; all_goals with_reducible rfl
      try simp only [Act.put, List.setIfInBounds_toArray, List.set_cons_zero, List.set_cons_succ]
      refine wpAnyH_ready (rs := [10]) (by kernel_rfl) (by simp) ?_
      refine (AllReadyH.cons rfl (fun K hK => ?_) AllReadyH.nil)
      go_simp
      refine (Tryz.Buffer_Write_any B gB [] (Lib.byteCells (pre ++ [x] ++ [125] ++ [10])) ⟨g1, 0, none⟩ _ _ _ HBF.out HBW.out (fun _ h => by cases h) (by rw [byteCells_length]; simp) hgr (fun j v h => HSR.out j v h) (byteCells_oneCell _) (by simp; omega)).mono ?_
      rintro e2 w2 ⟨rfl, hb2, hbl2, hk2⟩
      rw [List.nil_append] at hb2
      have HB2 := Lib.hid hb2
      have HL2 := Lib.hid hbl2
      have HK2 := Lib.hid hk2
      clear hb2 hbl2 hk2
      refine hK.out _ _ (trivial) (fun hHeld => ?_)
      clear hK K
      try simp only [Act.put, List.setIfInBounds_toArray, List.set_cons_zero, List.set_cons_succ]
      refine takeH (i := 11) (some 107) ?vq106 rfl rfl (by kernel_rfl) (by kernel_rfl) (by kernel_rfl) (fun _ _ _ h => h) (by rfl) ?yq107 (by assumption) ?rq108
      case yq107 => intro W hSw; go_simp; all_goals with_reducible rfl
      try simp only [Act.put, List.setIfInBounds_toArray, List.set_cons_zero, List.set_cons_succ]
      refine takeH (i := 12) (some 119) ?vq109 rfl rfl (by kernel_rfl) (by kernel_rfl) (by kernel_rfl) (fun _ _ _ h => h) (by rfl) ?yq110 (by assumption) ?rq111
      case yq110 => intro W hSw; go_simp; all_goals with_reducible rfl
      try simp only [Act.put, List.setIfInBounds_toArray, List.set_cons_zero, List.set_cons_succ]
      refine takeH (i := 13) (some 120) ?vq112 rfl rfl (by kernel_rfl) (by kernel_rfl) (by kernel_rfl) (fun _ _ _ h => h) (by rfl) ?yq113 (by assumption) ?rq114
      case yq113 => intro W hSw; go_simp; all_goals with_reducible rfl
      try simp only [Act.put, List.setIfInBounds_toArray, List.set_cons_zero, List.set_cons_succ]
      refine takeH (i := 14) (some 3) ?vq115 rfl rfl (by kernel_rfl) (by kernel_rfl) (by kernel_rfl) (fun _ _ _ h => h) (by rfl) ?yq116 (by assumption) ?rq117
      case yq116 => intro W hSw; go_simp; all_goals with_reducible rfl
      try simp only [Act.put, List.setIfInBounds_toArray, List.set_cons_zero, List.set_cons_succ]
      refine takeH (i := 15) (some 4) ?vq118 rfl rfl (by kernel_rfl) (by kernel_rfl) (by kernel_rfl) (fun _ _ _ h => h) (by rfl) ?yq119 (by assumption) ?rq120
      case yq119 => intro W hSw; go_simp; all_goals with_reducible rfl
      try simp only [Act.put, List.setIfInBounds_toArray, List.set_cons_zero, List.set_cons_succ]
      refine wpAnyH_done (by kernel_rfl) ?_ _
      refine NoPanic.normal ?_
      obtain ⟨B1, ⟨cur, B2, B3⟩, B4, B5⟩ := HW.out.blocks
      have hb0 := (HWS.out.below HF.out (Nat.le_trans hBg (Nat.le_of_lt hgb))).trans ((below_drew (Below.refl we.heap.size we)).mono HBW.out)
      have hgB : B ≤ gw := Nat.le_trans (Nat.le_trans hBg (Nat.le_of_lt hgb)) HW.out.hgw
      have G1 := kept67 HK2.out B1 hgwb (by decide)
      have G2 := kept67 HK2.out B2 hgsb (by decide)
      clear HW HF c0 c1 c2 c3 c4 c5 c6 cf t0 tf
      obtain ⟨c0, c1, c2, c3, c4, c5, c6, cf⟩ := wcell G1
      have HG := Lib.hid (And.intro G1 (And.intro G2 (And.intro B3 (And.intro B4 (And.intro B5 (And.intro (hb0.trans HL2.out) hgB))))))
      clear G1 G2 B1 B2 B3 B4 B5 hb0 hgB
      go_upto_region 22 with (fail)
      have h3 : (w2.setCell ⟨gw, 1, none⟩ (.slice (some ⟨g1, 0, none⟩) 0 cp1)).heap[gw]? = some (.cells (wcells (.iface 42 (.pointer (some ⟨gB, 0, none⟩))) (.slice (some ⟨g1, 0, none⟩) 0 cp1) (.slice (some ⟨gs, 0, none⟩) n cap) (ms0.length : Nat) can) 67 (0, 0)) := heap_set HG.out.1
      have h4 : (w2.setCell ⟨gw, 1, none⟩ (.slice (some ⟨g1, 0, none⟩) 0 cp1)).heap[gs]? = some (.cells cur.toArray 64 (0, 0)) := (heap_set_ne HG.out.2.2.2.2.1).trans HG.out.2.1
      have h5 := buffer_set HB2.out HG.out.1 1 (.slice (some ⟨g1, 0, none⟩) 0 cp1)
      have h6 : Below B w (w2.setCell ⟨gw, 1, none⟩ (.slice (some ⟨g1, 0, none⟩) 0 cp1)) := HG.out.2.2.2.2.2.1.trans ⟨rfl, rfl, rfl, by simp [World.setCell], fun k hk => heap_set_ne (by have := HG.out.2.2.2.2.2.2; omega)⟩
      have h7 := HG.out.2.2.1
      have h8 := HG.out.2.2.2.1
      generalize w2.setCell ⟨gw, 1, none⟩ (.slice (some ⟨g1, 0, none⟩) 0 cp1) = w3 at h3 h4 h5 h6 ⊢
      have H3 := Lib.hid (And.intro h3 (And.intro (⟨cur, h4, h7⟩ : ∃ cur : List Value, w3.heap[gs]? = some (.cells cur.toArray 64 (0, 0)) ∧ cur[ms0.length]? = some (.int .i64 1)) (And.intro h8 (And.intro h5 h6))))
      clear h3 h4 h5 h6 h7 h8 c0 c1 c2 c3 c4 c5 c6 cf HG
      go_wp2_with (first | (go_at_call 46; refine (pop0w H3.out.1 H3.out.2.1 H3.out.2.2.1).mono ?_; rintro e1 w4 ⟨rfl, q, rfl⟩))
      go_ret
      exact ⟨rfl, Lib.IsBuffer.old H3.out.2.2.2.1 (below_dn (Below.refl _ _) _), H3.out.2.2.2.2.trans (below_dn (Below.refl _ _) _)⟩
end

end Go.Proofs.YtpkfdbhpmhahaaaGreatDoor
