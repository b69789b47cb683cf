/- scanNumber, by its contract. -/
import Derived.Test.YtdabllkphibfmaaGreatDoorNumA
import Derived.Deep.CutBlock
import Derived.Deep.DeepCutAuto
namespace Go.Proofs.YtdabllkphibfmaaGreatDoor
open Go Go.RowKit
set_option linter.unusedSimpArgs false
set_option linter.unusedVariables false

theorem isDig_and (x : UInt8) : (decide (48 ≤ x.toNat) && decide (x.toNat ≤ 57)) = isDig x := by
  unfold isDig
  rw [Bool.eq_iff_iff]
  simp
theorem buf_below {B : Nat} {bs : List Value} {w w' : World} (h : Lib.IsBuffer 107 5 B B bs w) (hb : Below w.heap.size w w') : Lib.IsBuffer 107 5 B B bs w' :=
  isBuffer_of h fun k _ hk => hb.block k hk

theorem i32_id {v : Int} (h0 : -2147483648 ≤ v) (h1 : v ≤ 2147483647) (w : World) : (convert 2 21 (.int .i64 v)).run Tryz.prog w = .ok (.int .i32 v) w := by
  have h : (convert 2 21 (.int .i64 v)).run Tryz.prog w = .ok (.int .i32 (IntKind.i32.wrap v)) w := by kernel_rfl
  rw [h, i32_fits v h0 h1]


theorem drewN_below {B : Nat} (w : World) (n : Nat) : Below B w (w.drewN n) := ⟨rfl, rfl, rfl, Nat.le_refl _, fun _ _ => rfl⟩

/-- A number's text is whole, and the scanner stands behind it. -/
def Sc.Tl (s : Sc) (g : Option Nat) (w w0 : World) (q : Nat) (acc : List UInt8) (wx : World) : Prop :=
  (∃ p, s.St g q p wx) ∧ Lib.IsBuffer 107 5 w.heap.size w.heap.size (Lib.byteCells acc) wx ∧ Fr (s.S g) w wx ∧ Old w0 wx

theorem Sc.Tl.below {s : Sc} {g : Option Nat} {w w0 wx wy : World} {q : Nat} {acc : List UInt8} (h : s.Tl g w w0 q acc wx) (hb : Below wx.heap.size wx wy) : s.Tl g w w0 q acc wy := by
  obtain ⟨⟨p, h1⟩, h2, h3, h4⟩ := h
  exact ⟨⟨p, h1.of_heap fun i hi => hb.block i (h1.lt i hi)⟩, buf_below h2 hb, h3.trans (Fr.of_below hb), h4.below hb h4.size⟩
theorem Sc.Tl.drewN {s : Sc} {g : Option Nat} {w w0 wx : World} {q : Nat} {acc : List UInt8} (h : s.Tl g w w0 q acc wx) (n : Nat) : s.Tl g w w0 q acc (wx.drewN n) := h.below (drewN_below wx n)

theorem tok_tl {s : Sc} {g : Option Nat} {w w0 wX : World} {q q1 k : Nat} {acc : List UInt8} {v : TV} (h : s.Tl g w w0 q acc wX) (h0 : 0 < q) (hq : q ≤ s.T.length) :
    s.SubPost g w q1 (.tok k v (s.T.drop q)) (.returned (.tuple #[.pointer (some ⟨wX.heap.size, 0, none⟩), .nilIface])) (wX.alloc (.cells #[.int .u8 k, v.val, .int .i64 q1] 97)) := by
  obtain ⟨⟨p, hX⟩, _, hf, _⟩ := h
  exact ⟨wX.heap.size, rfl, hf.size, heap_alloc_new wX _, ⟨q, p, rfl, hq, h0, (hX.alloc _).1⟩, hf.alloc _⟩

theorem isDig_t {x : UInt8} (h : isDig x = true) : 48 ≤ x.toNat ∧ x.toNat ≤ 57 := of_decide_eq_true h
theorem isDig_f {x : UInt8} (h : isDig x = false) : ¬ (48 ≤ x.toNat ∧ x.toNat ≤ 57) := of_decide_eq_false h

set_option maxRecDepth 1000000 in
set_option maxHeartbeats 40000000 in
theorem Sc.numC (s : Sc) (w0 : World) (pf : PF) (hpf : PfC w0 pf) (hv : NumVars w0) (hT : s.T.length ≤ 1000000) : s.SubC w0 52 (numSub pf) := by
  intro g q0 w hq hold hog h hne
  obtain ⟨bv, ev, hj⟩ := h.js
  obtain ⟨c0, c1, c2, c3, cf⟩ := cell4 hj
  have HL : Hid (∃ q0 p0, s.St g q0 p0 w) := Lib.hid ⟨_, _, h⟩
  obtain ⟨q1, hq1⟩ : ∃ q1, q1 = q0 % 512 := ⟨_, rfl⟩
  rw [← hq1] at c2 h ⊢
  have hq1b : (q1 : Int) < 512 := by omega
  obtain ⟨c, hc⟩ : ∃ c, c = s.T[q0]'hq := ⟨_, rfl⟩
  rw [← hc] at hne ⊢
  obtain ⟨E, hE⟩ : ∃ E, E = numRun [c] (numStart c) (s.T.drop (q0 + 1)) := ⟨_, rfl⟩
  have hsub : numSub pf c (s.T.drop (q0 + 1)) = numEnd pf E := by rw [hE]; rfl
  rw [hsub] at hne ⊢
  have hst : s.St g (q0 + 1) (q1 + 1) (w.alloc (.cells #[.slice none 0 0, .int .i64 0, .int .i8 0] 107)) := (h.alloc _).1
  have hjs : s.j < w.heap.size := h.lt s.j (.inr (.inr (.inl rfl)))
  have hwb := Tryz.Buffer_WriteByte_k w.heap.size w.heap.size [] (c.toNat : Int) _ (Lib.fresh_isBuffer 107 5 w) (by simp) (by simp) (by simp)
  have HWB := Lib.hid hwb
  have HST := Lib.hid hst
  have HE := Lib.hid hE
  have HNE := Lib.hid hne
  have HC := Lib.hid hc
  have HO := Lib.hid (And.intro hold hog)
  clear cf hj c0 c1 c3 hE h hq1 hc hne hold hog hsub hwb hst
  go_enter Tryz.func52, Tryz.ntmps52
  go_upto_block 0 with (first | (go_at_call 60; refine (HWB.out).mono ?_; rintro e w1 ⟨rfl, hb1, hbel, hoth⟩; have HB1 := Lib.hid hb1; have HBEL := Lib.hid hbel; clear hb1 hbel hoth))
  go_cut [7] (fun v wx => v = .int .u8 (numStart c : Nat) ∧ w1 = wx)
  case first =>
   as_aux_lemma =>
    by_cases h45 : c = 45
    · subst h45
      go_wp2_with fail
      go_meet
      exact ⟨rfl, rfl⟩
    · have n45 : ((c.toNat : Int) == 45) = false := byte_ne' h45
      by_cases h48 : c = 48
      · subst h48
        go_wp2_with fail
        go_meet
        exact ⟨rfl, rfl⟩
      · have n48 : ((c.toNat : Int) == 48) = false := byte_ne' h48
        have e2 : numStart c = 2 := by simp [numStart, h45, h48]
        have HE2 := Lib.hid e2
        clear h45 h48 e2
        go_wp2_with fail
        go_meet
        exact ⟨by rw [HE2.out]; rfl, rfl⟩
  case rest =>
    obtain ⟨rfl, rfl⟩ := hcut
    clear HWB
    go_wp2
    go_loopg [7, 10] (s.T.length - (q0 + 1)) (fun m v7 v10 wx => ∃ q acc st t, m = s.T.length - q ∧ v7 = .int .u8 (st : Nat) ∧ v10 = .int .u8 (t : Nat) ∧ Aside (s.Nm g w E q acc st t wx))
    case atStart =>
     as_aux_lemma =>
      refine ⟨q0 + 1, [c], numStart c, 7, rfl, rfl, rfl, ?_⟩
      refine ⟨by omega, by omega, ⟨_, st_below HL.out.choose_spec.choose_spec HST.out HBEL.out⟩, HB1.out, by simp, HE.out.symm, ((Fr.refl _ w).alloc _).then_below HBEL.out, ?_⟩
      unfold KindOk numStart
      split
      · omega
      · split <;> omega
    case round =>
      obtain ⟨q, acc, st, t, rfl, rfl, rfl, hA⟩ := hrel
      have hk := hA.out.kind
      have hq0 := hA.out.q0
      have hqn := hA.out.qn
      have hlen := hA.out.len
      obtain ⟨p0, hsc⟩ := hA.out.sc
      have hrd := hsc.read hq0 hqn
      have HRD := Lib.hid hrd
      have HN : Hid (s.Nm g w E q acc st t wr) := Lib.hid hA.out
      have HK := Lib.hid hk
      clear hA hk hsc hrd HST HB1 HBEL
      go_upto_region 15 with (first | (go_at_call 47; refine (HRD.out).mono ?_; rintro e w2 ⟨x, eb, p, rfl, h4, h5⟩; have HG := Lib.hid h4; have HF := Lib.hid h5; clear h4 h5))
      have heo := HG.out.cells.2.2
      go_cut [40] (fun v wx => v = .bool false ∧ w2 = wx)
      case first =>
       as_aux_lemma =>
        cases eb with
        | true =>
          have hev : EndV s true = EOFv s.ea := rfl
          go_wp2_with (first | (go_at_call 49; refine (s.isEnd true _).mono ?_; rintro e w3 ⟨rfl, rfl⟩))
          go_meet
          exact ⟨rfl, rfl⟩
        | false =>
          have hev : EndV s false = .nilIface := rfl
          go_wp2_with (first | (go_at_call 49; refine (s.isEnd false _).mono ?_; rintro e w3 ⟨rfl, rfl⟩))
          go_meet
          exact ⟨rfl, rfl⟩
      case rest =>
        obtain ⟨rfl, rfl⟩ := hcut
        have hwb := Tryz.Buffer_WriteByte_k w.heap.size w.heap.size (Lib.byteCells acc) (x.toNat : Int) w2 (buf_read HL.out.choose_spec.choose_spec HN.out.buf HF.out) (Nat.le_trans HN.out.fr.size HF.out.size) (byteCells_oneCell _) (by rw [byteCells_length]; omega)
        have HWB := Lib.hid hwb
        have HX0 : Hid (eb = true → x = 0) := Lib.hid fun he => by
          rcases got_rest HG.out with ⟨_, _, h⟩ | ⟨h, _⟩
          · exact h
          · rw [h] at he; cases he
        clear hwb
        go_upto_block 3 with fail
        go_cut [7, 10] (fun v7 v10 wx => s.Mid g w E q p x eb acc v7 v10 wx)
        case first =>
          have hst8 : st = 0 ∨ st = 1 ∨ st = 2 ∨ st = 3 ∨ st = 4 ∨ st = 5 ∨ st = 6 ∨ st = 7 := by have := HK.out.1; omega
          rcases hst8 with rfl | rfl | rfl | rfl | rfl | rfl | rfl | rfl
          · as_aux_lemma =>
              obtain rfl : t = 7 := HK.out.2.2.1 (by omega)
              clear HRD
              cases eb with
              | true =>
                obtain rfl : x = 0 := HX0.out rfl
                have HWS := Lib.hid (show isBlank 0 = false by decide)
                have HDG := Lib.hid (show (decide (48 ≤ (0 : UInt8).toNat) && decide ((0 : UInt8).toNat ≤ 57)) = false by decide)
                go_wp2_with (first | (go_at_call 48; refine (isWsB _ false HWS.out _).mono ?_; rintro e w2 ⟨rfl, rfl⟩) | (go_at_call 49; refine (s.isEnd true _).mono ?_; rintro e w2 ⟨rfl, rfl⟩) | (go_at_call 51; refine (isDigitB _ false HDG.out _).mono ?_; rintro e w2 ⟨rfl, rfl⟩))
                go_meet
                exact Sc.Mid.of_bad 7 HN.out HG.out HF.out ⟨(fun h => nomatch h), fun _ => rfl⟩ rfl rfl
              | false =>
                by_cases c48 : x = 48
                · subst c48
                  go_wp2_with (first | (go_at_call 60; refine (HWB.out).mono ?_; rintro e w2 ⟨rfl, hb2, hbel, hoth⟩; have HB2 := Lib.hid hb2; have HBEL := Lib.hid hbel; clear hb2 hbel hoth))
                  go_meet
                  exact Sc.Mid.of_go 1 7 HL.out HN.out HG.out HF.out HB2.out HBEL.out rfl (by unfold KindOk; omega) rfl rfl
                have n48 : ((x.toNat : Int) == 48) = false := byte_ne' c48
                cases hdg : isDig x with
                | true =>
                  have HDG := Lib.hid ((isDig_and x).trans hdg)
                  have HST := Lib.hid (show numStep 0 x = .go 2 by simp [numStep, isExp, isTerm, c48, hdg])
                  clear c48 hdg
                  go_wp2_with (first | (go_at_call 51; refine (isDigitB _ true HDG.out _).mono ?_; rintro e w2 ⟨rfl, rfl⟩) | (go_at_call 60; refine (HWB.out).mono ?_; rintro e w2 ⟨rfl, hb2, hbel, hoth⟩; have HB2 := Lib.hid hb2; have HBEL := Lib.hid hbel; clear hb2 hbel hoth))
                  go_meet
                  exact Sc.Mid.of_go 2 7 HL.out HN.out HG.out HF.out HB2.out HBEL.out HST.out (by unfold KindOk; omega) rfl rfl
                | false =>
                  have HDG := Lib.hid ((isDig_and x).trans hdg)
                  have HST := Lib.hid (show numStep 0 x = .bad by simp [numStep, isExp, isTerm, c48, hdg])
                  clear c48 hdg
                  go_wp2_with (first | (go_at_call 51; refine (isDigitB _ false HDG.out _).mono ?_; rintro e w2 ⟨rfl, rfl⟩))
                  go_meet
                  exact Sc.Mid.of_bad 7 HN.out HG.out HF.out ⟨fun _ => HST.out, (fun h => nomatch h)⟩ rfl rfl
          · as_aux_lemma =>
              obtain rfl : t = 7 := HK.out.2.2.1 (by omega)
              clear HRD
              cases eb with
              | true =>
                obtain rfl : x = 0 := HX0.out rfl
                have HWS := Lib.hid (show isBlank 0 = false by decide)
                have HDG := Lib.hid (show (decide (48 ≤ (0 : UInt8).toNat) && decide ((0 : UInt8).toNat ≤ 57)) = false by decide)
                go_wp2_with (first | (go_at_call 48; refine (isWsB _ false HWS.out _).mono ?_; rintro e w2 ⟨rfl, rfl⟩) | (go_at_call 49; refine (s.isEnd true _).mono ?_; rintro e w2 ⟨rfl, rfl⟩) | (go_at_call 51; refine (isDigitB _ false HDG.out _).mono ?_; rintro e w2 ⟨rfl, rfl⟩))
                go_meet
                exact Sc.Mid.of_done 7 HL.out HN.out HG.out HF.out ⟨(fun h => nomatch h), fun _ => rfl⟩ (by omega) (by decide) rfl rfl
              | false =>
                by_cases c46 : x = 46
                · subst c46
                  go_wp2_with (first | (go_at_call 60; refine (HWB.out).mono ?_; rintro e w2 ⟨rfl, hb2, hbel, hoth⟩; have HB2 := Lib.hid hb2; have HBEL := Lib.hid hbel; clear hb2 hbel hoth))
                  go_meet
                  exact Sc.Mid.of_go 3 7 HL.out HN.out HG.out HF.out HB2.out HBEL.out rfl (by unfold KindOk; omega) rfl rfl
                have n46 : ((x.toNat : Int) == 46) = false := byte_ne' c46
                by_cases c101 : x = 101
                · subst c101
                  go_wp2_with (first | (go_at_call 60; refine (HWB.out).mono ?_; rintro e w2 ⟨rfl, hb2, hbel, hoth⟩; have HB2 := Lib.hid hb2; have HBEL := Lib.hid hbel; clear hb2 hbel hoth))
                  go_meet
                  exact Sc.Mid.of_go 5 7 HL.out HN.out HG.out HF.out HB2.out HBEL.out rfl (by unfold KindOk; omega) rfl rfl
                have n101 : ((x.toNat : Int) == 101) = false := byte_ne' c101
                by_cases c69 : x = 69
                · subst c69
                  go_wp2_with (first | (go_at_call 60; refine (HWB.out).mono ?_; rintro e w2 ⟨rfl, hb2, hbel, hoth⟩; have HB2 := Lib.hid hb2; have HBEL := Lib.hid hbel; clear hb2 hbel hoth))
                  go_meet
                  exact Sc.Mid.of_go 5 7 HL.out HN.out HG.out HF.out HB2.out HBEL.out rfl (by unfold KindOk; omega) rfl rfl
                have n69 : ((x.toNat : Int) == 69) = false := byte_ne' c69
                by_cases c125 : x = 125
                · subst c125
                  go_wp2_with fail
                  go_meet
                  exact Sc.Mid.of_done 7 HL.out HN.out HG.out HF.out ⟨fun _ => rfl, (fun h => nomatch h)⟩ (by omega) (by decide) rfl rfl
                have n125 : ((x.toNat : Int) == 125) = false := byte_ne' c125
                by_cases c93 : x = 93
                · subst c93
                  go_wp2_with fail
                  go_meet
                  exact Sc.Mid.of_done 7 HL.out HN.out HG.out HF.out ⟨fun _ => rfl, (fun h => nomatch h)⟩ (by omega) (by decide) rfl rfl
                have n93 : ((x.toNat : Int) == 93) = false := byte_ne' c93
                by_cases c44 : x = 44
                · subst c44
                  go_wp2_with fail
                  go_meet
                  exact Sc.Mid.of_done 7 HL.out HN.out HG.out HF.out ⟨fun _ => rfl, (fun h => nomatch h)⟩ (by omega) (by decide) rfl rfl
                have n44 : ((x.toNat : Int) == 44) = false := byte_ne' c44
                cases hws : isBlank x with
                | true =>
                  have HWS := Lib.hid hws
                  have HST := Lib.hid (show numStep 1 x = .done by simp [numStep, isExp, isTerm, c46, c101, c69, c125, c93, c44, hws])
                  clear c46 c101 c69 c125 c93 c44 hws
                  go_wp2_with (first | (go_at_call 48; refine (isWsB _ true HWS.out _).mono ?_; rintro e w2 ⟨rfl, rfl⟩) | (go_at_call 49; refine (s.isEnd false _).mono ?_; rintro e w2 ⟨rfl, rfl⟩))
                  go_meet
                  exact Sc.Mid.of_done 7 HL.out HN.out HG.out HF.out ⟨fun _ => HST.out, (fun h => nomatch h)⟩ (by omega) (by decide) rfl rfl
                | false =>
                  have HWS := Lib.hid hws
                  have HST := Lib.hid (show numStep 1 x = .bad by simp [numStep, isExp, isTerm, c46, c101, c69, c125, c93, c44, hws])
                  clear c46 c101 c69 c125 c93 c44 hws
                  go_wp2_with (first | (go_at_call 48; refine (isWsB _ false HWS.out _).mono ?_; rintro e w2 ⟨rfl, rfl⟩) | (go_at_call 49; refine (s.isEnd false _).mono ?_; rintro e w2 ⟨rfl, rfl⟩))
                  go_meet
                  exact Sc.Mid.of_bad 7 HN.out HG.out HF.out ⟨fun _ => HST.out, (fun h => nomatch h)⟩ rfl rfl
          · as_aux_lemma =>
              obtain rfl : t = 7 := HK.out.2.2.1 (by omega)
              clear HRD
              cases eb with
              | true =>
                obtain rfl : x = 0 := HX0.out rfl
                have HWS := Lib.hid (show isBlank 0 = false by decide)
                have HDG := Lib.hid (show (decide (48 ≤ (0 : UInt8).toNat) && decide ((0 : UInt8).toNat ≤ 57)) = false by decide)
                go_wp2_with (first | (go_at_call 48; refine (isWsB _ false HWS.out _).mono ?_; rintro e w2 ⟨rfl, rfl⟩) | (go_at_call 49; refine (s.isEnd true _).mono ?_; rintro e w2 ⟨rfl, rfl⟩) | (go_at_call 51; refine (isDigitB _ false HDG.out _).mono ?_; rintro e w2 ⟨rfl, rfl⟩))
                go_meet
                exact Sc.Mid.of_done 7 HL.out HN.out HG.out HF.out ⟨(fun h => nomatch h), fun _ => rfl⟩ (by omega) (by decide) rfl rfl
              | false =>
                by_cases c46 : x = 46
                · subst c46
                  go_wp2_with (first | (go_at_call 60; refine (HWB.out).mono ?_; rintro e w2 ⟨rfl, hb2, hbel, hoth⟩; have HB2 := Lib.hid hb2; have HBEL := Lib.hid hbel; clear hb2 hbel hoth))
                  go_meet
                  exact Sc.Mid.of_go 3 7 HL.out HN.out HG.out HF.out HB2.out HBEL.out rfl (by unfold KindOk; omega) rfl rfl
                have n46 : ((x.toNat : Int) == 46) = false := byte_ne' c46
                by_cases c101 : x = 101
                · subst c101
                  go_wp2_with (first | (go_at_call 60; refine (HWB.out).mono ?_; rintro e w2 ⟨rfl, hb2, hbel, hoth⟩; have HB2 := Lib.hid hb2; have HBEL := Lib.hid hbel; clear hb2 hbel hoth))
                  go_meet
                  exact Sc.Mid.of_go 5 7 HL.out HN.out HG.out HF.out HB2.out HBEL.out rfl (by unfold KindOk; omega) rfl rfl
                have n101 : ((x.toNat : Int) == 101) = false := byte_ne' c101
                by_cases c69 : x = 69
                · subst c69
                  go_wp2_with (first | (go_at_call 60; refine (HWB.out).mono ?_; rintro e w2 ⟨rfl, hb2, hbel, hoth⟩; have HB2 := Lib.hid hb2; have HBEL := Lib.hid hbel; clear hb2 hbel hoth))
                  go_meet
                  exact Sc.Mid.of_go 5 7 HL.out HN.out HG.out HF.out HB2.out HBEL.out rfl (by unfold KindOk; omega) rfl rfl
                have n69 : ((x.toNat : Int) == 69) = false := byte_ne' c69
                by_cases c125 : x = 125
                · subst c125
                  go_wp2_with fail
                  go_meet
                  exact Sc.Mid.of_done 7 HL.out HN.out HG.out HF.out ⟨fun _ => rfl, (fun h => nomatch h)⟩ (by omega) (by decide) rfl rfl
                have n125 : ((x.toNat : Int) == 125) = false := byte_ne' c125
                by_cases c93 : x = 93
                · subst c93
                  go_wp2_with fail
                  go_meet
                  exact Sc.Mid.of_done 7 HL.out HN.out HG.out HF.out ⟨fun _ => rfl, (fun h => nomatch h)⟩ (by omega) (by decide) rfl rfl
                have n93 : ((x.toNat : Int) == 93) = false := byte_ne' c93
                by_cases c44 : x = 44
                · subst c44
                  go_wp2_with fail
                  go_meet
                  exact Sc.Mid.of_done 7 HL.out HN.out HG.out HF.out ⟨fun _ => rfl, (fun h => nomatch h)⟩ (by omega) (by decide) rfl rfl
                have n44 : ((x.toNat : Int) == 44) = false := byte_ne' c44
                cases hws : isBlank x with
                | true =>
                  have HWS := Lib.hid hws
                  have HST := Lib.hid (show numStep 2 x = .done by simp [numStep, isExp, isTerm, c46, c101, c69, c125, c93, c44, hws])
                  clear c46 c101 c69 c125 c93 c44 hws
                  go_wp2_with (first | (go_at_call 48; refine (isWsB _ true HWS.out _).mono ?_; rintro e w2 ⟨rfl, rfl⟩) | (go_at_call 49; refine (s.isEnd false _).mono ?_; rintro e w2 ⟨rfl, rfl⟩) | (go_at_call 51; refine (isDigitB _ false HDG.out _).mono ?_; rintro e w2 ⟨rfl, rfl⟩))
                  go_meet
                  exact Sc.Mid.of_done 7 HL.out HN.out HG.out HF.out ⟨fun _ => HST.out, (fun h => nomatch h)⟩ (by omega) (by decide) rfl rfl
                | false =>
                  have HWS := Lib.hid hws
                  cases hdg : isDig x with
                  | true =>
                    have HDG := Lib.hid ((isDig_and x).trans hdg)
                    have HST := Lib.hid (show numStep 2 x = .go 2 by simp [numStep, isExp, isTerm, c46, c101, c69, c125, c93, c44, hws, hdg])
                    clear c46 c101 c69 c125 c93 c44 hws hdg
                    go_wp2_with (first | (go_at_call 48; refine (isWsB _ false HWS.out _).mono ?_; rintro e w2 ⟨rfl, rfl⟩) | (go_at_call 49; refine (s.isEnd false _).mono ?_; rintro e w2 ⟨rfl, rfl⟩) | (go_at_call 51; refine (isDigitB _ true HDG.out _).mono ?_; rintro e w2 ⟨rfl, rfl⟩) | (go_at_call 60; refine (HWB.out).mono ?_; rintro e w2 ⟨rfl, hb2, hbel, hoth⟩; have HB2 := Lib.hid hb2; have HBEL := Lib.hid hbel; clear hb2 hbel hoth))
                    go_meet
                    exact Sc.Mid.of_go 2 7 HL.out HN.out HG.out HF.out HB2.out HBEL.out HST.out (by unfold KindOk; omega) rfl rfl
                  | false =>
                    have HDG := Lib.hid ((isDig_and x).trans hdg)
                    have HST := Lib.hid (show numStep 2 x = .bad by simp [numStep, isExp, isTerm, c46, c101, c69, c125, c93, c44, hws, hdg])
                    clear c46 c101 c69 c125 c93 c44 hws hdg
                    go_wp2_with (first | (go_at_call 48; refine (isWsB _ false HWS.out _).mono ?_; rintro e w2 ⟨rfl, rfl⟩) | (go_at_call 49; refine (s.isEnd false _).mono ?_; rintro e w2 ⟨rfl, rfl⟩) | (go_at_call 51; refine (isDigitB _ false HDG.out _).mono ?_; rintro e w2 ⟨rfl, rfl⟩))
                    go_meet
                    exact Sc.Mid.of_bad 7 HN.out HG.out HF.out ⟨fun _ => HST.out, (fun h => nomatch h)⟩ rfl rfl
          · as_aux_lemma =>
              obtain rfl : t = 7 := HK.out.2.2.1 (by omega)
              clear HRD
              cases eb with
              | true =>
                obtain rfl : x = 0 := HX0.out rfl
                have HWS := Lib.hid (show isBlank 0 = false by decide)
                have HDG := Lib.hid (show (decide (48 ≤ (0 : UInt8).toNat) && decide ((0 : UInt8).toNat ≤ 57)) = false by decide)
                go_wp2_with (first | (go_at_call 48; refine (isWsB _ false HWS.out _).mono ?_; rintro e w2 ⟨rfl, rfl⟩) | (go_at_call 49; refine (s.isEnd true _).mono ?_; rintro e w2 ⟨rfl, rfl⟩) | (go_at_call 51; refine (isDigitB _ false HDG.out _).mono ?_; rintro e w2 ⟨rfl, rfl⟩))
                go_meet
                exact Sc.Mid.of_bad 8 HN.out HG.out HF.out ⟨(fun h => nomatch h), fun _ => rfl⟩ rfl rfl
              | false =>
                cases hdg : isDig x with
                | true =>
                  have HDG := Lib.hid ((isDig_and x).trans hdg)
                  have HST := Lib.hid (show numStep 3 x = .go 4 by simp [numStep, isExp, isTerm, hdg])
                  clear hdg
                  go_wp2_with (first | (go_at_call 51; refine (isDigitB _ true HDG.out _).mono ?_; rintro e w2 ⟨rfl, rfl⟩) | (go_at_call 60; refine (HWB.out).mono ?_; rintro e w2 ⟨rfl, hb2, hbel, hoth⟩; have HB2 := Lib.hid hb2; have HBEL := Lib.hid hbel; clear hb2 hbel hoth))
                  go_meet
                  exact Sc.Mid.of_go 4 8 HL.out HN.out HG.out HF.out HB2.out HBEL.out HST.out (by unfold KindOk; omega) rfl rfl
                | false =>
                  have HDG := Lib.hid ((isDig_and x).trans hdg)
                  have HST := Lib.hid (show numStep 3 x = .bad by simp [numStep, isExp, isTerm, hdg])
                  clear hdg
                  go_wp2_with (first | (go_at_call 51; refine (isDigitB _ false HDG.out _).mono ?_; rintro e w2 ⟨rfl, rfl⟩))
                  go_meet
                  exact Sc.Mid.of_bad 8 HN.out HG.out HF.out ⟨fun _ => HST.out, (fun h => nomatch h)⟩ rfl rfl
          · as_aux_lemma =>
              obtain rfl : t = 8 := HK.out.2.2.2 (by omega)
              clear HRD
              cases eb with
              | true =>
                obtain rfl : x = 0 := HX0.out rfl
                have HWS := Lib.hid (show isBlank 0 = false by decide)
                have HDG := Lib.hid (show (decide (48 ≤ (0 : UInt8).toNat) && decide ((0 : UInt8).toNat ≤ 57)) = false by decide)
                go_wp2_with (first | (go_at_call 48; refine (isWsB _ false HWS.out _).mono ?_; rintro e w2 ⟨rfl, rfl⟩) | (go_at_call 49; refine (s.isEnd true _).mono ?_; rintro e w2 ⟨rfl, rfl⟩) | (go_at_call 51; refine (isDigitB _ false HDG.out _).mono ?_; rintro e w2 ⟨rfl, rfl⟩))
                go_meet
                exact Sc.Mid.of_done 8 HL.out HN.out HG.out HF.out ⟨(fun h => nomatch h), fun _ => rfl⟩ (by omega) (by decide) rfl rfl
              | false =>
                by_cases c101 : x = 101
                · subst c101
                  go_wp2_with (first | (go_at_call 60; refine (HWB.out).mono ?_; rintro e w2 ⟨rfl, hb2, hbel, hoth⟩; have HB2 := Lib.hid hb2; have HBEL := Lib.hid hbel; clear hb2 hbel hoth))
                  go_meet
                  exact Sc.Mid.of_go 5 8 HL.out HN.out HG.out HF.out HB2.out HBEL.out rfl (by unfold KindOk; omega) rfl rfl
                have n101 : ((x.toNat : Int) == 101) = false := byte_ne' c101
                by_cases c69 : x = 69
                · subst c69
                  go_wp2_with (first | (go_at_call 60; refine (HWB.out).mono ?_; rintro e w2 ⟨rfl, hb2, hbel, hoth⟩; have HB2 := Lib.hid hb2; have HBEL := Lib.hid hbel; clear hb2 hbel hoth))
                  go_meet
                  exact Sc.Mid.of_go 5 8 HL.out HN.out HG.out HF.out HB2.out HBEL.out rfl (by unfold KindOk; omega) rfl rfl
                have n69 : ((x.toNat : Int) == 69) = false := byte_ne' c69
                by_cases c125 : x = 125
                · subst c125
                  go_wp2_with fail
                  go_meet
                  exact Sc.Mid.of_done 8 HL.out HN.out HG.out HF.out ⟨fun _ => rfl, (fun h => nomatch h)⟩ (by omega) (by decide) rfl rfl
                have n125 : ((x.toNat : Int) == 125) = false := byte_ne' c125
                by_cases c93 : x = 93
                · subst c93
                  go_wp2_with fail
                  go_meet
                  exact Sc.Mid.of_done 8 HL.out HN.out HG.out HF.out ⟨fun _ => rfl, (fun h => nomatch h)⟩ (by omega) (by decide) rfl rfl
                have n93 : ((x.toNat : Int) == 93) = false := byte_ne' c93
                by_cases c44 : x = 44
                · subst c44
                  go_wp2_with fail
                  go_meet
                  exact Sc.Mid.of_done 8 HL.out HN.out HG.out HF.out ⟨fun _ => rfl, (fun h => nomatch h)⟩ (by omega) (by decide) rfl rfl
                have n44 : ((x.toNat : Int) == 44) = false := byte_ne' c44
                cases hws : isBlank x with
                | true =>
                  have HWS := Lib.hid hws
                  have HST := Lib.hid (show numStep 4 x = .done by simp [numStep, isExp, isTerm, c101, c69, c125, c93, c44, hws])
                  clear c101 c69 c125 c93 c44 hws
                  go_wp2_with (first | (go_at_call 48; refine (isWsB _ true HWS.out _).mono ?_; rintro e w2 ⟨rfl, rfl⟩) | (go_at_call 49; refine (s.isEnd false _).mono ?_; rintro e w2 ⟨rfl, rfl⟩) | (go_at_call 51; refine (isDigitB _ false HDG.out _).mono ?_; rintro e w2 ⟨rfl, rfl⟩))
                  go_meet
                  exact Sc.Mid.of_done 8 HL.out HN.out HG.out HF.out ⟨fun _ => HST.out, (fun h => nomatch h)⟩ (by omega) (by decide) rfl rfl
                | false =>
                  have HWS := Lib.hid hws
                  cases hdg : isDig x with
                  | true =>
                    have HDG := Lib.hid ((isDig_and x).trans hdg)
                    have HST := Lib.hid (show numStep 4 x = .go 4 by simp [numStep, isExp, isTerm, c101, c69, c125, c93, c44, hws, hdg])
                    clear c101 c69 c125 c93 c44 hws hdg
                    go_wp2_with (first | (go_at_call 48; refine (isWsB _ false HWS.out _).mono ?_; rintro e w2 ⟨rfl, rfl⟩) | (go_at_call 49; refine (s.isEnd false _).mono ?_; rintro e w2 ⟨rfl, rfl⟩) | (go_at_call 51; refine (isDigitB _ true HDG.out _).mono ?_; rintro e w2 ⟨rfl, rfl⟩) | (go_at_call 60; refine (HWB.out).mono ?_; rintro e w2 ⟨rfl, hb2, hbel, hoth⟩; have HB2 := Lib.hid hb2; have HBEL := Lib.hid hbel; clear hb2 hbel hoth))
                    go_meet
                    exact Sc.Mid.of_go 4 8 HL.out HN.out HG.out HF.out HB2.out HBEL.out HST.out (by unfold KindOk; omega) rfl rfl
                  | false =>
                    have HDG := Lib.hid ((isDig_and x).trans hdg)
                    have HST := Lib.hid (show numStep 4 x = .bad by simp [numStep, isExp, isTerm, c101, c69, c125, c93, c44, hws, hdg])
                    clear c101 c69 c125 c93 c44 hws hdg
                    go_wp2_with (first | (go_at_call 48; refine (isWsB _ false HWS.out _).mono ?_; rintro e w2 ⟨rfl, rfl⟩) | (go_at_call 49; refine (s.isEnd false _).mono ?_; rintro e w2 ⟨rfl, rfl⟩) | (go_at_call 51; refine (isDigitB _ false HDG.out _).mono ?_; rintro e w2 ⟨rfl, rfl⟩))
                    go_meet
                    exact Sc.Mid.of_bad 8 HN.out HG.out HF.out ⟨fun _ => HST.out, (fun h => nomatch h)⟩ rfl rfl
          · as_aux_lemma =>
              clear HRD
              cases eb with
              | true =>
                obtain rfl : x = 0 := HX0.out rfl
                have HWS := Lib.hid (show isBlank 0 = false by decide)
                have HDG := Lib.hid (show (decide (48 ≤ (0 : UInt8).toNat) && decide ((0 : UInt8).toNat ≤ 57)) = false by decide)
                go_wp2_with (first | (go_at_call 48; refine (isWsB _ false HWS.out _).mono ?_; rintro e w2 ⟨rfl, rfl⟩) | (go_at_call 49; refine (s.isEnd true _).mono ?_; rintro e w2 ⟨rfl, rfl⟩) | (go_at_call 51; refine (isDigitB _ false HDG.out _).mono ?_; rintro e w2 ⟨rfl, rfl⟩))
                go_meet
                exact Sc.Mid.of_bad 8 HN.out HG.out HF.out ⟨(fun h => nomatch h), fun _ => rfl⟩ rfl rfl
              | false =>
                by_cases c43 : x = 43
                · subst c43
                  go_wp2_with (first | (go_at_call 60; refine (HWB.out).mono ?_; rintro e w2 ⟨rfl, hb2, hbel, hoth⟩; have HB2 := Lib.hid hb2; have HBEL := Lib.hid hbel; clear hb2 hbel hoth))
                  go_meet
                  exact Sc.Mid.of_go 6 8 HL.out HN.out HG.out HF.out HB2.out HBEL.out rfl (by unfold KindOk; omega) rfl rfl
                have n43 : ((x.toNat : Int) == 43) = false := byte_ne' c43
                by_cases c45 : x = 45
                · subst c45
                  go_wp2_with (first | (go_at_call 60; refine (HWB.out).mono ?_; rintro e w2 ⟨rfl, hb2, hbel, hoth⟩; have HB2 := Lib.hid hb2; have HBEL := Lib.hid hbel; clear hb2 hbel hoth))
                  go_meet
                  exact Sc.Mid.of_go 6 8 HL.out HN.out HG.out HF.out HB2.out HBEL.out rfl (by unfold KindOk; omega) rfl rfl
                have n45 : ((x.toNat : Int) == 45) = false := byte_ne' c45
                cases hdg : isDig x with
                | true =>
                  have HDG := Lib.hid ((isDig_and x).trans hdg)
                  have HST := Lib.hid (show numStep 5 x = .go 7 by simp [numStep, isExp, isTerm, c43, c45, hdg])
                  clear c43 c45 hdg
                  go_wp2_with (first | (go_at_call 51; refine (isDigitB _ true HDG.out _).mono ?_; rintro e w2 ⟨rfl, rfl⟩) | (go_at_call 60; refine (HWB.out).mono ?_; rintro e w2 ⟨rfl, hb2, hbel, hoth⟩; have HB2 := Lib.hid hb2; have HBEL := Lib.hid hbel; clear hb2 hbel hoth))
                  go_meet
                  exact Sc.Mid.of_go 7 8 HL.out HN.out HG.out HF.out HB2.out HBEL.out HST.out (by unfold KindOk; omega) rfl rfl
                | false =>
                  have HDG := Lib.hid ((isDig_and x).trans hdg)
                  have HST := Lib.hid (show numStep 5 x = .bad by simp [numStep, isExp, isTerm, c43, c45, hdg])
                  clear c43 c45 hdg
                  go_wp2_with (first | (go_at_call 51; refine (isDigitB _ false HDG.out _).mono ?_; rintro e w2 ⟨rfl, rfl⟩))
                  go_meet
                  exact Sc.Mid.of_bad 8 HN.out HG.out HF.out ⟨fun _ => HST.out, (fun h => nomatch h)⟩ rfl rfl
          · as_aux_lemma =>
              obtain rfl : t = 8 := HK.out.2.2.2 (by omega)
              clear HRD
              cases eb with
              | true =>
                obtain rfl : x = 0 := HX0.out rfl
                have HWS := Lib.hid (show isBlank 0 = false by decide)
                have HDG := Lib.hid (show (decide (48 ≤ (0 : UInt8).toNat) && decide ((0 : UInt8).toNat ≤ 57)) = false by decide)
                go_wp2_with (first | (go_at_call 48; refine (isWsB _ false HWS.out _).mono ?_; rintro e w2 ⟨rfl, rfl⟩) | (go_at_call 49; refine (s.isEnd true _).mono ?_; rintro e w2 ⟨rfl, rfl⟩) | (go_at_call 51; refine (isDigitB _ false HDG.out _).mono ?_; rintro e w2 ⟨rfl, rfl⟩))
                go_meet
                exact Sc.Mid.of_bad 8 HN.out HG.out HF.out ⟨(fun h => nomatch h), fun _ => rfl⟩ rfl rfl
              | false =>
                cases hdg : isDig x with
                | true =>
                  have HDG := Lib.hid ((isDig_and x).trans hdg)
                  have HST := Lib.hid (show numStep 6 x = .go 7 by simp [numStep, isExp, isTerm, hdg])
                  clear hdg
                  go_wp2_with (first | (go_at_call 51; refine (isDigitB _ true HDG.out _).mono ?_; rintro e w2 ⟨rfl, rfl⟩) | (go_at_call 60; refine (HWB.out).mono ?_; rintro e w2 ⟨rfl, hb2, hbel, hoth⟩; have HB2 := Lib.hid hb2; have HBEL := Lib.hid hbel; clear hb2 hbel hoth))
                  go_meet
                  exact Sc.Mid.of_go 7 8 HL.out HN.out HG.out HF.out HB2.out HBEL.out HST.out (by unfold KindOk; omega) rfl rfl
                | false =>
                  have HDG := Lib.hid ((isDig_and x).trans hdg)
                  have HST := Lib.hid (show numStep 6 x = .bad by simp [numStep, isExp, isTerm, hdg])
                  clear hdg
                  go_wp2_with (first | (go_at_call 51; refine (isDigitB _ false HDG.out _).mono ?_; rintro e w2 ⟨rfl, rfl⟩))
                  go_meet
                  exact Sc.Mid.of_bad 8 HN.out HG.out HF.out ⟨fun _ => HST.out, (fun h => nomatch h)⟩ rfl rfl
          · as_aux_lemma =>
              obtain rfl : t = 8 := HK.out.2.2.2 (by omega)
              clear HRD
              cases eb with
              | true =>
                obtain rfl : x = 0 := HX0.out rfl
                have HWS := Lib.hid (show isBlank 0 = false by decide)
                have HDG := Lib.hid (show (decide (48 ≤ (0 : UInt8).toNat) && decide ((0 : UInt8).toNat ≤ 57)) = false by decide)
                go_wp2_with (first | (go_at_call 48; refine (isWsB _ false HWS.out _).mono ?_; rintro e w2 ⟨rfl, rfl⟩) | (go_at_call 49; refine (s.isEnd true _).mono ?_; rintro e w2 ⟨rfl, rfl⟩) | (go_at_call 51; refine (isDigitB _ false HDG.out _).mono ?_; rintro e w2 ⟨rfl, rfl⟩))
                go_meet
                exact Sc.Mid.of_done 8 HL.out HN.out HG.out HF.out ⟨(fun h => nomatch h), fun _ => rfl⟩ (by omega) (by decide) rfl rfl
              | false =>
                by_cases c125 : x = 125
                · subst c125
                  go_wp2_with fail
                  go_meet
                  exact Sc.Mid.of_done 8 HL.out HN.out HG.out HF.out ⟨fun _ => rfl, (fun h => nomatch h)⟩ (by omega) (by decide) rfl rfl
                have n125 : ((x.toNat : Int) == 125) = false := byte_ne' c125
                by_cases c93 : x = 93
                · subst c93
                  go_wp2_with fail
                  go_meet
                  exact Sc.Mid.of_done 8 HL.out HN.out HG.out HF.out ⟨fun _ => rfl, (fun h => nomatch h)⟩ (by omega) (by decide) rfl rfl
                have n93 : ((x.toNat : Int) == 93) = false := byte_ne' c93
                by_cases c44 : x = 44
                · subst c44
                  go_wp2_with fail
                  go_meet
                  exact Sc.Mid.of_done 8 HL.out HN.out HG.out HF.out ⟨fun _ => rfl, (fun h => nomatch h)⟩ (by omega) (by decide) rfl rfl
                have n44 : ((x.toNat : Int) == 44) = false := byte_ne' c44
                cases hws : isBlank x with
                | true =>
                  have HWS := Lib.hid hws
                  have HST := Lib.hid (show numStep 7 x = .done by simp [numStep, isExp, isTerm, c125, c93, c44, hws])
                  clear c125 c93 c44 hws
                  go_wp2_with (first | (go_at_call 48; refine (isWsB _ true HWS.out _).mono ?_; rintro e w2 ⟨rfl, rfl⟩) | (go_at_call 49; refine (s.isEnd false _).mono ?_; rintro e w2 ⟨rfl, rfl⟩) | (go_at_call 51; refine (isDigitB _ false HDG.out _).mono ?_; rintro e w2 ⟨rfl, rfl⟩))
                  go_meet
                  exact Sc.Mid.of_done 8 HL.out HN.out HG.out HF.out ⟨fun _ => HST.out, (fun h => nomatch h)⟩ (by omega) (by decide) rfl rfl
                | false =>
                  have HWS := Lib.hid hws
                  cases hdg : isDig x with
                  | true =>
                    have HDG := Lib.hid ((isDig_and x).trans hdg)
                    have HST := Lib.hid (show numStep 7 x = .go 7 by simp [numStep, isExp, isTerm, c125, c93, c44, hws, hdg])
                    clear c125 c93 c44 hws hdg
                    go_wp2_with (first | (go_at_call 48; refine (isWsB _ false HWS.out _).mono ?_; rintro e w2 ⟨rfl, rfl⟩) | (go_at_call 49; refine (s.isEnd false _).mono ?_; rintro e w2 ⟨rfl, rfl⟩) | (go_at_call 51; refine (isDigitB _ true HDG.out _).mono ?_; rintro e w2 ⟨rfl, rfl⟩) | (go_at_call 60; refine (HWB.out).mono ?_; rintro e w2 ⟨rfl, hb2, hbel, hoth⟩; have HB2 := Lib.hid hb2; have HBEL := Lib.hid hbel; clear hb2 hbel hoth))
                    go_meet
                    exact Sc.Mid.of_go 7 8 HL.out HN.out HG.out HF.out HB2.out HBEL.out HST.out (by unfold KindOk; omega) rfl rfl
                  | false =>
                    have HDG := Lib.hid ((isDig_and x).trans hdg)
                    have HST := Lib.hid (show numStep 7 x = .bad by simp [numStep, isExp, isTerm, c125, c93, c44, hws, hdg])
                    clear c125 c93 c44 hws hdg
                    go_wp2_with (first | (go_at_call 48; refine (isWsB _ false HWS.out _).mono ?_; rintro e w2 ⟨rfl, rfl⟩) | (go_at_call 49; refine (s.isEnd false _).mono ?_; rintro e w2 ⟨rfl, rfl⟩) | (go_at_call 51; refine (isDigitB _ false HDG.out _).mono ?_; rintro e w2 ⟨rfl, rfl⟩))
                    go_meet
                    exact Sc.Mid.of_bad 8 HN.out HG.out HF.out ⟨fun _ => HST.out, (fun h => nomatch h)⟩ rfl rfl
        case rest =>
          cases hcut with
          | go st t h7 h10 hnm =>
           as_aux_lemma =>
            subst h7 h10
            have hk7 := hnm.kind.1
            have hq1n := hnm.qn
            have n8 : ((st : Int) == 8) = false := by simp only [beq_eq_false_iff_ne, ne_eq]; omega
            have n9 : ((st : Int) == 9) = false := by simp only [beq_eq_false_iff_ne, ne_eq]; omega
            have HNM := Lib.hid hnm
            clear hnm heo HRD
            go_wp2
            go_roundg (s.T.length - (q + 1))
            case measure => omega
            case rel => exact ⟨q + 1, acc ++ [x], st, t, rfl, rfl, rfl, HNM.out⟩
          | bad t h7 h10 hE hf =>
           as_aux_lemma =>
            subst h7 h10
            have HE1 := Lib.hid hE
            have HF1 := Lib.hid hf
            clear hE hf heo HRD
            go_wp2_with (first | (go_at_call 54; refine (errors_new _ _).mono ?_; rintro e w5 ⟨rfl, rfl⟩))
            try rw [Exit.noGoto_ret]
            go_ret2
            rw [HE1.out]
            exact ⟨⟨_, _, rfl⟩, HF1.out.alloc _⟩
          | done t h7 h10 ht hE hg hb hf =>
            subst h7 h10
            as_aux_lemma =>
              have hp : p < 514 := hg.some_st.choose_spec.2
              have hp1 : (p : Int) < 514 := by omega
              obtain ⟨j2, jf, _⟩ := hg.cells
              have hmx := fun W => max0' p hp W
              have hcb := fun W => conv_back (p - 1) (by omega) W
              have hct := conv_to
              have hTL : s.Tl g w w0 q acc (wc.setCell ⟨s.j, 2, none⟩ (.int .i64 ((p - 1 : Nat) : Int))) := by
                have hfS := hf.setCell (p := ⟨s.j, 2, none⟩) (.inl (.inl rfl)) (.int .i64 ((p - 1 : Nat) : Int))
                refine ⟨hg.back _ rfl, isBuffer_of hb (fun k hk _ => Below.heap_setCell _ _ _ _ (by show k ≠ s.j; omega)), hfS, HO.out.1.fr hfS HO.out.2⟩
              have HTL := Lib.hid hTL
              have HE1 := Lib.hid hE
              clear hTL hE hg hb hf HRD heo
              go_upto_region 116 with fail
              go_cut [] (fun wx => s.Tl g w w0 q acc wx)
              case first =>
                go_wp2_with (first | (go_at_call 73; refine (hmx _).mono ?_; rintro e w5 ⟨rfl, rfl⟩))
                go_meet
                exact HTL.out
              case rest =>
                have HT1 := Lib.hid hcut
                clear hcut hmx hcb hct HTL j2 jf
                rcases ht with rfl | rfl
                · have hpc := fun W (ho : Old w0 W) => parseInt w0 hv acc (by omega) W ho
                  cases hpi : Lib.parseIntB 64 acc with
                  | ok v =>
                    rw [hpi] at hpc
                    by_cases hlo : v < -2147483648
                    · as_aux_lemma =>
                        have e1 : numEnd pf E = .tok 7 (.i64 v) (s.T.drop q) := by rw [HE1.out]; simp [numEnd, numVal, hpi, hlo]
                        have HE2 := Lib.hid e1
                        have HPC := Lib.hid hpc
                        clear hpi e1 hpc
                        go_wp2_with (first
                          | (go_at_call 43; refine (Tryz.Buffer_String _ _ acc _ HT1.out.2.1).mono ?_; rintro e w5 ⟨rfl, n, rfl⟩; have hT2 := HT1.out.drewN n; have HT8 := Lib.hid hT2; clear hT2)
                          | (go_at_call 74; refine (HPC.out _ HT8.out.2.2.2).mono ?_; rintro e w6 ⟨⟨v', ev, rfl, hm⟩, hb⟩; obtain ⟨rfl, rfl⟩ := hm; have hT3 := HT8.out.below hb; have HT9 := Lib.hid hT3; clear hb hT3))
                        try rw [Exit.noGoto_ret]
                        go_ret2
                        rw [HE2.out]
                        exact tok_tl (k := 7) (v := .i64 v') HT9.out hq0 hqn
                    · by_cases hhi : 2147483647 < v
                      · as_aux_lemma =>
                          have e1 : numEnd pf E = .tok 7 (.i64 v) (s.T.drop q) := by rw [HE1.out]; simp [numEnd, numVal, hpi, hlo, hhi]
                          have HE2 := Lib.hid e1
                          have HPC := Lib.hid hpc
                          clear hpi e1 hpc
                          go_wp2_with (first
                            | (go_at_call 43; refine (Tryz.Buffer_String _ _ acc _ HT1.out.2.1).mono ?_; rintro e w5 ⟨rfl, n, rfl⟩; have hT2 := HT1.out.drewN n; have HT8 := Lib.hid hT2; clear hT2)
                            | (go_at_call 74; refine (HPC.out _ HT8.out.2.2.2).mono ?_; rintro e w6 ⟨⟨v', ev, rfl, hm⟩, hb⟩; obtain ⟨rfl, rfl⟩ := hm; have hT3 := HT8.out.below hb; have HT9 := Lib.hid hT3; clear hb hT3))
                          try rw [Exit.noGoto_ret]
                          go_ret2
                          rw [HE2.out]
                          exact tok_tl (k := 7) (v := .i64 v') HT9.out hq0 hqn
                      · as_aux_lemma =>
                          have hcv := i32_id (v := v) (by omega) (by omega)
                          have e1 : numEnd pf E = .tok 6 (.i32 v) (s.T.drop q) := by rw [HE1.out]; simp [numEnd, numVal, hpi, hlo, hhi]
                          have HE2 := Lib.hid e1
                          have HPC := Lib.hid hpc
                          clear hpi e1 hpc
                          go_wp2_with (first
                            | (go_at_call 43; refine (Tryz.Buffer_String _ _ acc _ HT1.out.2.1).mono ?_; rintro e w5 ⟨rfl, n, rfl⟩; have hT2 := HT1.out.drewN n; have HT8 := Lib.hid hT2; clear hT2)
                            | (go_at_call 74; refine (HPC.out _ HT8.out.2.2.2).mono ?_; rintro e w6 ⟨⟨v', ev, rfl, hm⟩, hb⟩; obtain ⟨rfl, rfl⟩ := hm; have hT3 := HT8.out.below hb; have HT9 := Lib.hid hT3; clear hb hT3))
                          try rw [Exit.noGoto_ret]
                          go_ret2
                          rw [HE2.out]
                          exact tok_tl (k := 6) (v := .i32 v') HT9.out hq0 hqn
                  | _ =>
                    as_aux_lemma =>
                      rw [hpi] at hpc
                      have HPC := Lib.hid hpc
                      have HPI := Lib.hid hpi
                      clear hpi hpc
                      go_upto_region 123 with (first
                        | (go_at_call 43; refine (Tryz.Buffer_String _ _ acc _ HT1.out.2.1).mono ?_; rintro e w5 ⟨rfl, n, rfl⟩; have hT2 := HT1.out.drewN n; have HT8 := Lib.hid hT2; clear hT2)
                        | (go_at_call 74; refine (HPC.out _ HT8.out.2.2.2).mono ?_; rintro e w6 ⟨⟨v', ev, rfl, hm⟩, hb⟩; obtain ⟨te1, ye1, rfl⟩ := hm; have hT3 := HT8.out.below hb; have HT7 := Lib.hid hT3; clear hb hT3))
                      cases hpfr : pf acc with
                      | none =>
                        exfalso
                        refine HNE.out ?_
                        rw [HE1.out]
                        simp [numEnd, numVal, numFloat, hpfr, HPI.out]
                      | some r =>
                        have hpp := fun W (ho : Old w0 W) => hpf acc W r ho hpfr
                        cases r with
                        | none =>
                          have e1 : numEnd pf E = .err := by rw [HE1.out]; simp [numEnd, numVal, numFloat, hpfr, HPI.out]
                          have HE2 := Lib.hid e1
                          have HPP := Lib.hid hpp
                          clear hpfr e1 hpp
                          go_wp2_with (first
                            | (go_at_call 43; refine (Tryz.Buffer_String _ _ acc _ HT7.out.2.1).mono ?_; rintro e w5 ⟨rfl, n, rfl⟩; have hT2 := HT7.out.drewN n; have HT8 := Lib.hid hT2; clear hT2)
                            | (go_at_call 28; refine (HPP.out _ HT8.out.2.2.2).mono ?_; rintro e w7 ⟨⟨b, ev, rfl, hm⟩, hb⟩; obtain ⟨te, ye, rfl⟩ := hm; have hT3 := HT8.out.below hb; have HT9 := Lib.hid hT3; clear hb hT3))
                          try rw [Exit.noGoto_ret]
                          go_ret2
                          rw [HE2.out]
                          exact ⟨⟨_, _, rfl⟩, HT9.out.2.2.1⟩
                        | some b0 =>
                          have e1 : numEnd pf E = .tok 8 (.f64 b0) (s.T.drop q) := by rw [HE1.out]; simp [numEnd, numVal, numFloat, hpfr, HPI.out]
                          have HE2 := Lib.hid e1
                          have HPP := Lib.hid hpp
                          clear hpfr e1 hpp
                          go_wp2_with (first
                            | (go_at_call 43; refine (Tryz.Buffer_String _ _ acc _ HT7.out.2.1).mono ?_; rintro e w5 ⟨rfl, n, rfl⟩; have hT2 := HT7.out.drewN n; have HT8 := Lib.hid hT2; clear hT2)
                            | (go_at_call 28; refine (HPP.out _ HT8.out.2.2.2).mono ?_; rintro e w7 ⟨⟨b, ev, rfl, hm⟩, hb⟩; obtain ⟨rfl, rfl⟩ := hm; have hT3 := HT8.out.below hb; have HT9 := Lib.hid hT3; clear hb hT3))
                          try rw [Exit.noGoto_ret]
                          go_ret2
                          rw [HE2.out]
                          exact tok_tl (k := 8) (v := .f64 b) HT9.out hq0 hqn
                · as_aux_lemma =>
                    cases hpfr : pf acc with
                    | none =>
                      exfalso
                      refine HNE.out ?_
                      rw [HE1.out]
                      simp [numEnd, numVal, numFloat, hpfr]
                    | some r =>
                      have hpp := fun W (ho : Old w0 W) => hpf acc W r ho hpfr
                      cases r with
                      | none =>
                        have e1 : numEnd pf E = .err := by rw [HE1.out]; simp [numEnd, numVal, numFloat, hpfr]
                        have HE2 := Lib.hid e1
                        have HPP := Lib.hid hpp
                        clear hpfr e1 hpp
                        go_wp2_with (first
                          | (go_at_call 43; refine (Tryz.Buffer_String _ _ acc _ HT1.out.2.1).mono ?_; rintro e w5 ⟨rfl, n, rfl⟩; have hT2 := HT1.out.drewN n; have HT8 := Lib.hid hT2; clear hT2)
                          | (go_at_call 28; refine (HPP.out _ HT8.out.2.2.2).mono ?_; rintro e w7 ⟨⟨b, ev, rfl, hm⟩, hb⟩; obtain ⟨te, ye, rfl⟩ := hm; have hT3 := HT8.out.below hb; have HT9 := Lib.hid hT3; clear hb hT3))
                        try rw [Exit.noGoto_ret]
                        go_ret2
                        rw [HE2.out]
                        exact ⟨⟨_, _, rfl⟩, HT9.out.2.2.1⟩
                      | some b0 =>
                        have e1 : numEnd pf E = .tok 8 (.f64 b0) (s.T.drop q) := by rw [HE1.out]; simp [numEnd, numVal, numFloat, hpfr]
                        have HE2 := Lib.hid e1
                        have HPP := Lib.hid hpp
                        clear hpfr e1 hpp
                        go_wp2_with (first
                          | (go_at_call 43; refine (Tryz.Buffer_String _ _ acc _ HT1.out.2.1).mono ?_; rintro e w5 ⟨rfl, n, rfl⟩; have hT2 := HT1.out.drewN n; have HT8 := Lib.hid hT2; clear hT2)
                          | (go_at_call 28; refine (HPP.out _ HT8.out.2.2.2).mono ?_; rintro e w7 ⟨⟨b, ev, rfl, hm⟩, hb⟩; obtain ⟨rfl, rfl⟩ := hm; have hT3 := HT8.out.below hb; have HT9 := Lib.hid hT3; clear hb hT3))
                        try rw [Exit.noGoto_ret]
                        go_ret2
                        rw [HE2.out]
                        exact tok_tl (k := 8) (v := .f64 b) HT9.out hq0 hqn

end Go.Proofs.YtdabllkphibfmaaGreatDoor
