/- Floats as decimals: fmtEFG's texts without an exponent. -/
import Derived.Test.YtpkfdbhpmhahaaaGreatDoorFec
namespace Go.Proofs.YtpkfdbhpmhahaaaGreatDoor
open Go Go.RowKit Go.Lib
set_option linter.unusedSimpArgs false
set_option linter.unusedVariables false

set_option maxRecDepth 100000 in
set_option maxHeartbeats 4000000 in
theorem fmtZ (B gb : Nat) (ob : Obj) (l : List UInt8) (hl : l.length ≤ 1000) (neg : Bool) (g0 ln0 cp0 : Nat) (w0 w : World) (h : OB B gb ob l w0 (.slice (some ⟨g0, 0, none⟩) ln0 cp0) w) :
    Calls Tryz.prog 138 #[.slice (some ⟨g0, 0, none⟩) ln0 cp0, .bool neg, .slice none 0 0, .int .i64 0, .int .i64 0, .int .i64 (-1), .int .u8 71, .bool true] w (EfgPost B gb ob (l ++ sgn neg ++ [48]) w0) := by
  have HO := Lib.hid h
  clear h
  go_enter Tryz.func138, Tryz.ntmps138
  obtain ⟨sg, hsg⟩ : ∃ x, x = sgn neg := ⟨_, rfl⟩
  have hsl : sg.length ≤ 1 := by rw [hsg]; unfold sgn; split <;> simp
  rw [← hsg]
  have HSG := Lib.hid hsg
  clear hsg
  go_upto_if 178 with fail
  go_cut [0] from 179 to 181 (fun v0 wx => ∃ g ln cp, v0 = .slice (some ⟨g, 0, none⟩) ln cp ∧ Hid (OB B gb ob (l ++ sg) w0 v0 wx))
  case first =>
    cases neg with
    | true =>
      go_wp2_with (first | ((with_reducible refine wpList_at (some 181) ?_); refine wpList_ob_append HO.out ((Below.refl _ _).alloc (Nat.le_refl _) _) rfl _ _ rfl rfl ⟨_, 0, none⟩ 1 _ [45] rfl rfl (news_one _ 45) (by simp only [List.length_append, List.length_cons, List.length_nil]; omega) (by simp only [List.length_append, List.length_cons, List.length_nil]; omega) ?_; intro g1 ln1 cp1 w1 ho1; clear HO; have HO := ho1; clear ho1))
      go_meet
      exact ⟨_, _, _, rfl, by rw [HSG.out]; exact HO⟩
    | false =>
      go_wp2
      go_meet
      exact ⟨_, _, _, rfl, by rw [HSG.out]; simp only [sgn, Bool.false_eq_true, if_false, List.append_nil]; exact HO⟩
  case rest =>
  obtain ⟨g1, ln1, cp1, rfl, ho1⟩ := hcut
  clear HO
  have HO := ho1
  clear ho1
  go_wp2_with (first | ((with_reducible refine wpList_at (some 211) ?_); refine wpList_ob_append HO.out ((Below.refl _ _).alloc (Nat.le_refl _) _) rfl _ _ rfl rfl ⟨_, 0, none⟩ 1 _ [48] rfl rfl (news_one _ 48) (by simp only [List.length_append, List.length_cons, List.length_nil]; omega) (by simp only [List.length_append, List.length_cons, List.length_nil]; omega) ?_; intro g1 ln1 cp1 w1 ho1; clear HO; have HO := ho1; clear ho1))
  go_ret
  exact ⟨_, _, _, rfl, HO.out⟩

set_option maxRecDepth 100000 in
set_option maxHeartbeats 4000000 in
theorem fmtF (B gb : Nat) (ob : Obj) (l : List UInt8) (hl : l.length ≤ 1000) (ds : List UInt8) (N : Nat) (hN : N = ds.length) (hNb : N ≤ 30) (dp : Int) (hdp : -4 ≤ dp - 1 ∧ dp - 1 < 6) (hbuf : BufIs ob ds) (neg : Bool) (g0 ln0 cp0 : Nat) (w0 w : World) (h : OB B gb ob l w0 (.slice (some ⟨g0, 0, none⟩) ln0 cp0) w) :
    Calls Tryz.prog 138 #[.slice (some ⟨g0, 0, none⟩) ln0 cp0, .bool neg, .slice (some ⟨gb, 0, none⟩) 32 32, .int .i64 dp, .int .i64 (N : Int), .int .i64 (N : Int), .int .u8 71, .bool true] w (EfgPost B gb ob (l ++ sgn neg ++ efgF ds dp) w0) := by
  have HO := Lib.hid h
  have HBU := Lib.hid hbuf
  have HNN := Lib.hid hN
  clear h hbuf hN
  obtain ⟨TX, hTX⟩ : ∃ x, x = l ++ sgn neg ++ efgF ds dp := ⟨_, rfl⟩
  rw [← hTX]
  have HTX := Lib.hid hTX
  clear hTX
  go_enter Tryz.func138, Tryz.ntmps138
  go_upto_region 8 with fail
  go_cut [56] from 50 to 56 (fun v wx => v = .bool false ∧ w = wx)
  case first =>
    have f1 : ¬ dp - 1 < -4 := by omega
    have f2 : ¬ (6 : Int) ≤ dp - 1 := by omega
    go_wp2
    go_meet
    exact ⟨rfl, rfl⟩
  case rest =>
  obtain ⟨rfl, rfl⟩ := hcut
  go_upto_if 68 with fail
  go_cut [5] from 68 to 69 (fun v wx => v = .int .i64 (N : Int) ∧ w = wx)
  case first =>
    by_cases a1 : dp < (N : Int)
    · go_wp2
      go_meet
      exact ⟨rfl, rfl⟩
    · go_wp2
      go_meet
      exact ⟨rfl, rfl⟩
  case rest =>
  obtain ⟨rfl, rfl⟩ := hcut
  obtain ⟨PR, hPR⟩ : ∃ x, x = ((N : Int) - dp).toNat := ⟨_, rfl⟩
  have m1 : max ((N : Int) - dp) 0 = (PR : Int) := by omega
  have HPR := Lib.hid hPR
  have hPb : PR ≤ 40 := by omega
  clear hPR
  obtain ⟨sg, hsg⟩ : ∃ x, x = sgn neg := ⟨_, rfl⟩
  have hsl : sg.length ≤ 1 := by rw [hsg]; unfold sgn; split <;> simp
  have HSG := Lib.hid hsg
  clear hsg
  go_upto_if 178 with fail
  go_cut [0] from 179 to 181 (fun v0 wx => ∃ g ln cp, v0 = .slice (some ⟨g, 0, none⟩) ln cp ∧ Hid (OB B gb ob (l ++ sg) w0 v0 wx))
  case first =>
    cases neg with
    | true =>
      go_wp2_with (first | ((with_reducible refine wpList_at (some 181) ?_); refine wpList_ob_append HO.out ((Below.refl _ _).alloc (Nat.le_refl _) _) rfl _ _ rfl rfl ⟨_, 0, none⟩ 1 _ [45] rfl rfl (news_one _ 45) (by simp only [List.length_append, List.length_cons, List.length_nil]; omega) (by simp only [List.length_append, List.length_cons, List.length_nil]; omega) ?_; intro g1 ln1 cp1 w1 ho1; clear HO; have HO := ho1; clear ho1))
      go_meet
      exact ⟨_, _, _, rfl, by rw [HSG.out]; exact HO⟩
    | false =>
      go_wp2
      go_meet
      exact ⟨_, _, _, rfl, by rw [HSG.out]; simp only [sgn, Bool.false_eq_true, if_false, List.append_nil]; exact HO⟩
  case rest =>
  obtain ⟨g1, ln1, cp1, rfl, ho1⟩ := hcut
  clear HO
  have HO := ho1
  clear ho1
  obtain ⟨ip, hip⟩ : ∃ x, x = (if 0 < dp then ds.take dp.toNat ++ List.replicate (dp.toNat - ds.length) 48 else [48]) := ⟨_, rfl⟩
  have hipl : ip.length ≤ 40 := by
    rw [hip]
    have := HNN.out
    split
    · simp; omega
    · simp
  have HIP := Lib.hid hip
  clear hip
  go_upto_if 183 with fail
  go_cut [0, 23, 25] from 183 to 211 (fun v0 v23 v25 wx => ∃ g ln cp, v0 = .slice (some ⟨g, 0, none⟩) ln cp ∧ Hid (OB B gb ob (l ++ sg ++ ip) w0 v0 wx))
  case first =>
    by_cases hp : 0 < dp
    · obtain ⟨D, hD⟩ : ∃ x, x = dp.toNat := ⟨_, rfl⟩
      obtain ⟨M, hM⟩ : ∃ x, x = min N D := ⟨_, rfl⟩
      obtain ⟨Zc, hZc⟩ : ∃ x, x = D - M := ⟨_, rfl⟩
      have n1 : min (N : Int) dp = (M : Int) := by omega
      have n2 : dp - (M : Int) = (Zc : Int) := by omega
      have hMb : M ≤ 30 := by omega
      have hZb : Zc ≤ 6 := by omega
      have hMN : M ≤ N := by omega
      have hsl0 := sl_0N gb M hMb
      have HDM := Lib.hid (And.intro hD (And.intro hM hZc))
      clear hD hM hZc
      have hd1 : decide (0 < dp) = true := decide_eq_true hp
      rw [hd1]
      clear hd1
      go_upto_block 4 with fail
      go_wp2
      go_loopg [0, 25, 191] M (fun m v0 v25 v191 wx => Aside (∃ k g ln cp, m = M - k ∧ k ≤ M ∧ v191 = .int .i64 (k : Int) ∧ v0 = .slice (some ⟨g, 0, none⟩) ln cp ∧ OB B gb ob (l ++ sg ++ ds.take k) w0 v0 wx))
      case atStart => exact ⟨0, _, _, _, rfl, by omega, rfl, rfl, by rw [List.take_zero, List.append_nil]; exact HO.out⟩
      case round =>
        obtain ⟨k, g2, ln2, cp2, rfl, hk, rfl, rfl, ho2⟩ := hrel.out
        clear hrel HO
        have HO := Lib.hid ho2
        clear ho2
        have hNd := HNN.out
        by_cases hlt : k < M
        · have hcell := HBU.out.at HO.out.keep k (by omega)
          obtain ⟨c, hc⟩ : ∃ c, c = ds[k]'(by omega) := ⟨_, rfl⟩
          rw [← hc] at hcell
          have hlt' : (k : Int) < (M : Int) := by omega
          have HC := Lib.hid (show ds.take k ++ [c] = ds.take (k + 1) by rw [hc, List.take_succ_eq_append_getElem (by omega)])
          clear hc hNd
          go_wp2_with (first | ((with_reducible refine wpList_at (some 198) ?_); refine wpList_ob_append HO.out ((Below.refl _ _).alloc (Nat.le_refl _) _) rfl _ _ rfl rfl ⟨_, 0, none⟩ 1 _ [c] rfl rfl (news_one _ c) (by simp only [List.length_append, List.length_cons, List.length_nil, List.length_take, List.length_replicate, List.length_drop]; omega) (by simp only [List.length_append, List.length_cons, List.length_nil, List.length_take, List.length_replicate, List.length_drop]; omega) ?_; intro g1 ln1 cp1 w1 ho1; clear HO; have HO := ho1; clear ho1))
          go_roundg (M - (k + 1))
          case measure => omega
          case rel => exact ⟨k + 1, _, _, _, rfl, by omega, rfl, rfl, by rw [← HC.out, ← List.append_assoc]; exact HO.out⟩
        · have hk2 : k = M := by omega
          subst hk2
          clear hNd
          have hlt' : ¬ (k : Int) < (k : Int) := by omega
          go_upto_block 6 with fail
          go_wp2
          go_loopg [0, 203] Zc (fun m v0 v1 wx => Aside (∃ q g ln cp, m = Zc - q ∧ q ≤ Zc ∧ v1 = .int .i64 (q : Int) ∧ v0 = .slice (some ⟨g, 0, none⟩) ln cp ∧ OB B gb ob (l ++ sg ++ ds.take k ++ List.replicate q 48) w0 v0 wx))
          case atStart => exact ⟨0, _, _, _, rfl, by omega, rfl, rfl, by rw [List.replicate_zero, List.append_nil]; exact HO.out⟩
          case round =>
            obtain ⟨q, g2, ln2, cp2, rfl, hq, rfl, rfl, ho2⟩ := hrel.out
            clear hrel HO
            have HO := Lib.hid ho2
            clear ho2
            by_cases hlq : q < Zc
            · have hlq' : (q : Int) < (Zc : Int) := by omega
              go_wp2_with (first | ((with_reducible refine wpList_at (some 207) ?_); refine wpList_ob_append HO.out ((Below.refl _ _).alloc (Nat.le_refl _) _) rfl _ _ rfl rfl ⟨_, 0, none⟩ 1 _ [48] rfl rfl (news_one _ 48) (by simp only [List.length_append, List.length_cons, List.length_nil, List.length_take, List.length_replicate, List.length_drop]; omega) (by simp only [List.length_append, List.length_cons, List.length_nil, List.length_take, List.length_replicate, List.length_drop]; omega) ?_; intro g1 ln1 cp1 w1 ho1; clear HO; have HO := ho1; clear ho1))
              go_roundg (Zc - (q + 1))
              case measure => omega
              case rel => exact ⟨q + 1, _, _, _, rfl, by omega, rfl, rfl, by rw [List.replicate_succ', ← List.append_assoc]; exact HO.out⟩
            · have hq2 : q = Zc := by omega
              subst hq2
              go_wp2
              go_meet
              refine ⟨_, _, _, rfl, ?_⟩
              have h1 := HDM.out
              have hNd := HNN.out
              rw [HIP.out, if_pos hp, ← h1.1, ← hNd]
              have e1 : ds.take D = ds.take k := by
                rw [h1.2.1]
                rw [List.take_eq_take_iff]
                omega
              rw [e1, show D - N = q by omega, ← List.append_assoc]
              exact HO
    · have hip0 : ip = [48] := by rw [HIP.out, if_neg hp]
      subst hip0
      go_wp2_with (first | ((with_reducible refine wpList_at (some 211) ?_); refine wpList_ob_append HO.out ((Below.refl _ _).alloc (Nat.le_refl _) _) rfl _ _ rfl rfl ⟨_, 0, none⟩ 1 _ [48] rfl rfl (news_one _ 48) (by simp only [List.length_append, List.length_cons, List.length_nil]; omega) (by simp only [List.length_append, List.length_cons, List.length_nil]; omega) ?_; intro g1 ln1 cp1 w1 ho1; clear HO; have HO := ho1; clear ho1))
      go_meet
      exact ⟨_, _, _, rfl, HO⟩
  case rest =>
  obtain ⟨g1, ln1, cp1, rfl, ho1⟩ := hcut
  clear HO
  have HO := ho1
  clear ho1
  obtain ⟨OFF, hOFF⟩ : ∃ x, x = dp.toNat := ⟨_, rfl⟩
  obtain ⟨LZ, hLZ⟩ : ∃ x, x = (-dp).toNat := ⟨_, rfl⟩
  obtain ⟨fp, hfp⟩ : ∃ x : List UInt8, x = if PR = 0 then [] else [46] ++ List.replicate LZ 48 ++ ds.drop OFF := ⟨_, rfl⟩
  have hfl : fp.length ≤ 60 := by
    rw [hfp]
    have := HNN.out
    split
    · simp
    · simp; omega
  have HFP := Lib.hid (And.intro hfp (And.intro hOFF hLZ))
  have hOb : OFF ≤ 6 := by omega
  have hLb : LZ ≤ 3 := by omega
  clear hfp hOFF hLZ
  go_upto_if 213 with fail
  go_cut [0, 26, 27, 28, 29, 30] from 213 to 266 (fun v0 v26 v27 v28 v29 v30 wx => ∃ g ln cp, v0 = .slice (some ⟨g, 0, none⟩) ln cp ∧ Hid (OB B gb ob (l ++ sg ++ ip ++ fp) w0 v0 wx))
  case first =>
    have hNd := HNN.out
    have hPd := HPR.out
    obtain ⟨q1, q2, q3⟩ := HFP.out
    by_cases hz : PR = 0
    · have hf0 : fp = [] := by rw [q1, if_pos hz]
      have hd1 : decide (0 < PR) = false := decide_eq_false (by omega)
      rw [hd1]
      clear q1 q2 q3 hNd hPd hz hd1
      subst hf0
      go_wp2
      go_meet
      exact ⟨_, _, _, rfl, by rw [List.append_nil]; exact HO⟩
    · rw [if_neg hz] at q1
      have HQ := Lib.hid q1
      have hd1 : decide (0 < PR) = true := decide_eq_true (by omega)
      obtain ⟨MM, hMM⟩ : ∃ x, x = N - OFF := ⟨_, rfl⟩
      have n1 : max 0 (-dp) = (LZ : Int) := by omega
      have n2 : min (PR : Int) (LZ : Int) = (LZ : Int) := by omega
      have n3 : dp + (LZ : Int) = (OFF : Int) := by omega
      have n4 : max 0 ((N : Int) - (OFF : Int)) = (MM : Int) := by omega
      have n5 : min ((PR : Int) - (LZ : Int)) (MM : Int) = (MM : Int) := by omega
      have n6 : (PR : Int) - (LZ : Int) - (MM : Int) = 0 := by omega
      have hMO : OFF + MM ≤ N := by omega
      have hMb : MM ≤ 30 := by omega
      have HMM := Lib.hid (And.intro hMM (And.intro hNd q2))
      clear q1 q2 q3 hMM hPd hNd hz
      rw [hd1]
      clear hd1
      go_upto_block 8 with (first | ((with_reducible refine wpList_at (some 216) ?_); refine wpList_ob_append HO.out ((Below.refl _ _).alloc (Nat.le_refl _) _) rfl _ _ rfl rfl ⟨_, 0, none⟩ 1 _ [46] rfl rfl (news_one _ 46) (by simp only [List.length_append, List.length_cons, List.length_nil]; omega) (by simp only [List.length_append, List.length_cons, List.length_nil]; omega) ?_; intro g1 ln1 cp1 w1 ho1; clear HO; have HO := ho1; clear ho1))
      go_wp2
      go_loopg [0, 240] LZ (fun m v0 v1 wx => Aside (∃ q g ln cp, m = LZ - q ∧ q ≤ LZ ∧ v1 = .int .i64 (q : Int) ∧ v0 = .slice (some ⟨g, 0, none⟩) ln cp ∧ OB B gb ob (l ++ sg ++ ip ++ [46] ++ List.replicate q 48) w0 v0 wx))
      case atStart => exact ⟨0, _, _, _, rfl, by omega, rfl, rfl, by rw [List.replicate_zero, List.append_nil]; exact HO.out⟩
      case round =>
        obtain ⟨q, g2, ln2, cp2, rfl, hq, rfl, rfl, ho2⟩ := hrel.out
        clear hrel HO
        have HO := Lib.hid ho2
        clear ho2
        by_cases hlq : q < LZ
        · have hlq' : (q : Int) < (LZ : Int) := by omega
          go_wp2_with (first | ((with_reducible refine wpList_at (some 244) ?_); refine wpList_ob_append HO.out ((Below.refl _ _).alloc (Nat.le_refl _) _) rfl _ _ rfl rfl ⟨_, 0, none⟩ 1 _ [48] rfl rfl (news_one _ 48) (by simp only [List.length_append, List.length_cons, List.length_nil, List.length_take, List.length_replicate, List.length_drop]; omega) (by simp only [List.length_append, List.length_cons, List.length_nil, List.length_take, List.length_replicate, List.length_drop]; omega) ?_; intro g1 ln1 cp1 w1 ho1; clear HO; have HO := ho1; clear ho1))
          go_roundg (LZ - (q + 1))
          case measure => omega
          case rel => exact ⟨q + 1, _, _, _, rfl, by omega, rfl, rfl, by rw [List.replicate_succ', ← List.append_assoc]; exact HO.out⟩
        · have hq2 : q = LZ := by omega
          subst hq2
          go_upto_block 10 with fail
          go_wp2
          go_loopg [0, 30, 247] MM (fun m v0 v30 v1 wx => Aside (∃ k g ln cp, m = MM - k ∧ k ≤ MM ∧ v1 = .int .i64 (k : Int) ∧ v0 = .slice (some ⟨g, 0, none⟩) ln cp ∧ OB B gb ob (l ++ sg ++ ip ++ [46] ++ List.replicate q 48 ++ (ds.drop OFF).take k) w0 v0 wx))
          case atStart => exact ⟨0, _, _, _, rfl, by omega, rfl, rfl, by rw [List.take_zero, List.append_nil]; exact HO.out⟩
          case round =>
            obtain ⟨k, g3, ln3, cp3, rfl, hk, rfl, rfl, ho3⟩ := hrel.out
            clear hrel HO
            have HO := Lib.hid ho3
            clear ho3
            have hNd := HMM.out.2.1
            by_cases hlt : k < MM
            · obtain ⟨J, hJ⟩ : ∃ x, x = OFF + k := ⟨_, rfl⟩
              have hcell := HBU.out.at HO.out.keep J (by omega)
              obtain ⟨c, hc⟩ : ∃ c, c = ds[J]'(by omega) := ⟨_, rfl⟩
              rw [← hc] at hcell
              have hJ2 : (OFF : Int) + (k : Int) = (J : Int) := by omega
              have hJb : J < 32 := by omega
              have hlt' : (k : Int) < (MM : Int) := by omega
              have HC := Lib.hid (show (ds.drop OFF).take k ++ [c] = (ds.drop OFF).take (k + 1) by
                rw [List.take_succ_eq_append_getElem (by rw [List.length_drop]; omega), List.getElem_drop, hc]
                simp only [hJ])
              have HJ := Lib.hid hJ
              clear hc hNd hJ
              go_wp2_with (first | ((with_reducible refine wpList_at (some 258) ?_); refine wpList_ob_append HO.out ((Below.refl _ _).alloc (Nat.le_refl _) _) rfl _ _ rfl rfl ⟨_, 0, none⟩ 1 _ [c] rfl rfl (news_one _ c) (by simp only [List.length_append, List.length_cons, List.length_nil, List.length_take, List.length_replicate, List.length_drop]; omega) (by simp only [List.length_append, List.length_cons, List.length_nil, List.length_take, List.length_replicate, List.length_drop]; omega) ?_; intro g1 ln1 cp1 w1 ho1; clear HO; have HO := ho1; clear ho1))
              go_roundg (MM - (k + 1))
              case measure => omega
              case rel => exact ⟨k + 1, _, _, _, rfl, by omega, rfl, rfl, by rw [← HC.out, ← List.append_assoc]; exact HO.out⟩
            · have hk2 : k = MM := by omega
              subst hk2
              clear hNd
              have hlt' : ¬ (k : Int) < (k : Int) := by omega
              go_upto_block 12 with fail
              go_wp2
              go_loopg [0, 261] 0 (fun m v0 v1 wx => Aside (m = 0) ∧ v0 = .slice (some ⟨g3, 0, none⟩) ln3 cp3 ∧ v1 = .int .i64 0 ∧ wr = wx)
              case atStart => exact ⟨rfl, rfl, rfl, rfl⟩
              case round =>
                obtain ⟨hm, rfl, rfl, rfl⟩ := hrel
                go_wp2
                go_meet
                refine ⟨_, _, _, rfl, ?_⟩
                have h1 := HMM.out
                have e1 : (ds.drop OFF).take k = ds.drop OFF := List.take_of_length_le (by rw [List.length_drop]; omega)
                have h2 := HO.out
                rw [e1] at h2
                rw [HQ.out]
                simp only [List.append_assoc] at h2 ⊢
                exact Lib.hid h2
  case rest =>
  obtain ⟨g1, ln1, cp1, rfl, ho1⟩ := hcut
  go_wp2
  go_ret
  refine ⟨_, _, _, rfl, ?_⟩
  have h1 := HNN.out
  have h2 := HPR.out
  obtain ⟨h3, h4, h5⟩ := HFP.out
  have e : TX = l ++ sg ++ ip ++ fp := by
    rw [HTX.out, HSG.out, HIP.out]
    unfold efgF
    simp only [List.append_assoc]
    congr 2
    by_cases hp : 0 < dp
    · rw [if_pos hp, if_pos hp, h3]
      rw [List.append_assoc]
      congr 2
      by_cases hq : dp < ds.length
      · rw [if_pos hq, if_neg (by omega), h4, h5, show (-dp).toNat = 0 by omega]
        rfl
      · rw [if_neg hq, if_pos (by omega)]
    · rw [if_neg hp, if_neg hp, h3]
      congr 1
      by_cases hq : 0 < (ds.length : Int) - dp
      · rw [if_pos hq, if_neg (by omega), h4, h5, show dp.toNat = 0 by omega]
        simp
      · rw [if_neg hq, if_pos (by omega)]
  rw [e]
  exact ho1.out

end Go.Proofs.YtpkfdbhpmhahaaaGreatDoor
