/- readFloat, by its contract: at every text of a decimal number. -/
import Derived.Test.YtdabllkphibfmaaGreatDoorFloP
import Derived.Test.YtdabllkphibfmaaGreatDoorNumA
import Derived.Deep.CutBlock
import Derived.Deep.DeepCutAuto
namespace Go.Proofs.YtdabllkphibfmaaGreatDoor
open Go Go.RowKit
set_option linter.unusedSimpArgs false
set_option linter.unusedVariables false

theorem lowerC (c : Int) (w : World) : Calls Tryz.prog 113 #[.int .u8 c] w fun e w' => e = .returned (.int .u8 (Go.bits .or .u8 c 32)) ∧ w = w' := by
  go_enter Tryz.func113, Tryz.ntmps113
  go_wp2
  go_ret
  exact ⟨rfl, rfl⟩

theorem dig_t {x : UInt8} (h : isDig x = true) : 48 ≤ x.toNat ∧ x.toNat ≤ 57 := of_decide_eq_true h
theorem dig_f {x : UInt8} (h : isDig x = false) : ¬ (48 ≤ x.toNat ∧ x.toNat ≤ 57) := of_decide_eq_false h
theorem lower_all : ∀ k : Fin 256, isNumC (UInt8.ofNat k.val) = true → (Go.bits .or .u8 (k.val : Int) 32 == 120) = false ∧ (Go.bits .or .u8 (k.val : Int) 32 == 101) = isExp (UInt8.ofNat k.val) ∧ ((k.val : Int) == 95) = false := by decide +kernel
theorem lower_num (c : UInt8) (h : isNumC c = true) : (Go.bits .or .u8 (c.toNat : Int) 32 == 120) = false ∧ (Go.bits .or .u8 (c.toNat : Int) 32 == 101) = isExp c ∧ ((c.toNat : Int) == 95) = false := by
  have := lower_all ⟨c.toNat, c.toNat_lt⟩
  simp only [UInt8.ofNat_toNat] at this
  exact this h

/-- The mantissa's slots. -/
def RS.slots (st : RS) (i : Nat) (v2 v5 v7 v13 v14 v15 v16 v17 : Value) : Prop :=
  v2 = .int .u64 (st.m : Nat) ∧ v5 = .bool st.tr ∧ v7 = .int .i64 (i : Nat) ∧ v13 = .bool st.dot ∧ v14 = .bool st.dig ∧ v15 = .int .i64 (st.nd : Nat) ∧ v16 = .int .i64 (st.nm : Nat) ∧ v17 = .int .i64 st.dp

theorem str_drop (s : ByteArray) (i : Nat) (h : i < s.size) : s.data.toList.drop i = s[i]'h :: s.data.toList.drop (i + 1) := by
  rw [List.drop_eq_getElem_cons (by simpa using h)]
  rfl

theorem rfD_dot {s : RS} {r : List UInt8} {fin : RS × List UInt8} (h : rfDigits s (46 :: r) = fin) : (s.dot = true → fin = (s, 46 :: r)) ∧ (s.dot = false → rfDigits { s with dot := true, dp := s.nd } r = fin) := by
  rw [rfDigits, if_pos rfl] at h
  refine ⟨fun hd => ?_, fun hd => ?_⟩
  · rw [if_pos hd] at h; exact h.symm
  · rw [if_neg (by rw [hd]; decide)] at h; exact h
theorem rfD_dig {s : RS} {c : UInt8} {r : List UInt8} {fin : RS × List UInt8} (h : rfDigits s (c :: r) = fin) (h1 : c ≠ 46) (h2 : isDig c = true) : rfDigits (s.digit c) r = fin := by
  rw [rfDigits, if_neg h1, if_pos h2] at h
  exact h
theorem rfD_end {s : RS} {c : UInt8} {r : List UInt8} {fin : RS × List UInt8} (h : rfDigits s (c :: r) = fin) (h1 : c ≠ 46) (h2 : isDig c = false) : fin = (s, c :: r) := by
  rw [rfDigits, if_neg h1, if_neg (by rw [h2]; decide)] at h
  exact h.symm

theorem rfExp_le : ∀ (l : List UInt8) (e : Nat), e ≤ 99999 → (rfExp e l).1 ≤ 99999
  | [], e, h => h
  | c :: r, e, h => by
    rw [rfExp]
    split
    · rename_i hc
      exact rfExp_le r _ (expDigit_le hc h)
    · exact h

theorem rfTail_le {l : List UInt8} {x : Int} (h : rfTail l = some x) : -100000 ≤ x ∧ x ≤ 100000 := by
  have he : ∀ (l : List UInt8) (e : Nat), rfExpEnd l = some e → e ≤ 99999 := by
    intro l e h
    unfold rfExpEnd at h
    split at h
    · cases h
    · split at h
      · split at h
        · injection h with h
          rw [← h]
          exact rfExp_le _ 0 (by omega)
        · cases h
      · cases h
  have hs : ∀ (l : List UInt8) (x : Int), rfSigned l = some x → -100000 ≤ x ∧ x ≤ 100000 := by
    intro l x h
    unfold rfSigned at h
    split at h
    · cases h
    · split at h
      · obtain ⟨e, h1, rfl⟩ := Option.map_eq_some_iff.1 h
        have := he _ _ h1
        omega
      · split at h
        · obtain ⟨e, h1, rfl⟩ := Option.map_eq_some_iff.1 h
          have := he _ _ h1
          omega
        · obtain ⟨e, h1, rfl⟩ := Option.map_eq_some_iff.1 h
          have := he _ _ h1
          omega
  unfold rfTail at h
  split at h
  · injection h with h; omega
  · split at h
    · exact hs _ _ h
    · cases h

theorem rfExpEnd_at {s : ByteArray} {j e : Nat} (h : rfExpEnd (s.data.toList.drop j) = some e) : ∃ hj : j < s.size, isDig (s[j]'hj) = true ∧ rfExp 0 (s.data.toList.drop j) = (e, []) := by
  have hj : j < s.size := by
    rcases Nat.lt_or_ge j s.size with h1 | h1
    · exact h1
    · have h0 : s.data.toList.drop j = [] := List.drop_of_length_le (by simpa using h1)
      rw [h0] at h; cases h
  refine ⟨hj, ?_⟩
  rw [str_drop s j hj] at h ⊢
  simp only [rfExpEnd] at h
  cases hd : isDig (s[j]'hj) with
  | false => rw [hd] at h; simp at h
  | true =>
    rw [hd] at h
    simp only [if_true] at h
    split at h
    · rename_i h2
      injection h with h
      exact ⟨rfl, Prod.ext h h2⟩
    · cases h

theorem rfSigned_at {s : ByteArray} {j : Nat} {x : Int} (h : rfSigned (s.data.toList.drop j) = some x) : ∃ hj : j < s.size, ∃ e : Nat,
    (s[j]'hj = 43 ∧ rfExpEnd (s.data.toList.drop (j + 1)) = some e ∧ x = e) ∨ (s[j]'hj = 45 ∧ rfExpEnd (s.data.toList.drop (j + 1)) = some e ∧ x = -(e : Int)) ∨ (s[j]'hj ≠ 43 ∧ s[j]'hj ≠ 45 ∧ rfExpEnd (s.data.toList.drop j) = some e ∧ x = e) := by
  have hj : j < s.size := by
    rcases Nat.lt_or_ge j s.size with h1 | h1
    · exact h1
    · have h0 : s.data.toList.drop j = [] := List.drop_of_length_le (by simpa using h1)
      rw [h0] at h; cases h
  refine ⟨hj, ?_⟩
  have hd := str_drop s j hj
  rw [hd] at h
  simp only [rfSigned] at h
  split at h
  · rename_i h1
    obtain ⟨e, h2, h3⟩ := Option.map_eq_some_iff.1 h
    exact ⟨e, .inl ⟨h1, h2, h3.symm⟩⟩
  · rename_i h1
    split at h
    · rename_i h1'
      obtain ⟨e, h2, h3⟩ := Option.map_eq_some_iff.1 h
      exact ⟨e, .inr (.inl ⟨h1', h2, h3.symm⟩)⟩
    · rename_i h1'
      obtain ⟨e, h2, h3⟩ := Option.map_eq_some_iff.1 h
      rw [← hd] at h2
      exact ⟨e, .inr (.inr ⟨h1, h1', h2, h3.symm⟩)⟩

/-- The mantissa is read up to i. -/
def RfEnd (s : ByteArray) (fin : RS × List UInt8) (v2 v5 v7 v13 v14 v15 v16 v17 : Value) : Prop :=
  ∃ i : Nat, i ≤ s.size ∧ fin.1.slots i v2 v5 v7 v13 v14 v15 v16 v17 ∧ fin.2 = s.data.toList.drop i ∧ fin.1.Ok i

set_option maxRecDepth 1000000 in
set_option maxHeartbeats 40000000 in
theorem readFloat (s : ByteArray) (hal : ∀ c ∈ s.data.toList, isNumC c = true) (hl : s.size ≤ 1000000) (w : World) (m : Nat) (ex : Int) (neg tr : Bool) (h : rf s.data.toList = some (m, ex, neg, tr)) :
    Calls Tryz.prog 89 #[.string s] w fun e w' => e = .returned (.tuple #[.int .u64 m, .int .i64 ex, .bool neg, .bool tr, .bool false, .int .i64 s.size, .bool true]) ∧ w = w' := by
  have hn : 0 < s.size := by
    rcases Nat.eq_zero_or_pos s.size with h0 | h0
    · have : s.data.toList = [] := List.eq_nil_of_length_eq_zero h0
      rw [this] at h; cases h
    · exact h0
  obtain ⟨k, hk, hbody, hkn⟩ : ∃ k : Nat, k = (if s[0]'hn = 45 then 1 else 0) ∧ rfBody (s.data.toList.drop k) = some (m, ex, tr) ∧ neg = decide (s[0]'hn = 45) := by
    have h0 := str_drop s 0 hn
    rw [List.drop_zero] at h0
    rw [h0] at h
    by_cases h45 : s[0]'hn = 45
    · refine ⟨1, by rw [if_pos h45], ?_, ?_⟩
      all_goals simp only [rf, h45, if_true, Option.map_eq_some_iff, Prod.mk.injEq] at h
      · obtain ⟨⟨a, b, c⟩, h1, rfl, rfl, _, rfl⟩ := h
        exact h1
      · obtain ⟨⟨a, b, c⟩, h1, _, _, h2, _⟩ := h
        rw [← h2]; simp [h45]
    · refine ⟨0, by rw [if_neg h45], ?_, ?_⟩
      · simp only [rf, h45, if_false, Option.map_eq_some_iff, Prod.mk.injEq] at h
        obtain ⟨⟨a, b, c⟩, h1, rfl, rfl, _, rfl⟩ := h
        rw [List.drop_zero, h0]
        exact h1
      · simp only [rf, h45, if_false, Option.map_eq_some_iff, Prod.mk.injEq] at h
        obtain ⟨⟨a, b, c⟩, h1, _, _, h2, _⟩ := h
        rw [← h2]; simp [h45]
  have hk1 : k ≤ 1 := by rw [hk]; split <;> omega
  obtain ⟨fin, hfin⟩ : ∃ fin, rfDigits .zero (s.data.toList.drop k) = fin := ⟨_, rfl⟩
  have hal2 : ∀ i (hi : i < s.size), isNumC (s[i]'hi) = true := fun i hi => hal _ (by
    have := str_drop s i hi
    exact List.mem_of_mem_drop (this ▸ List.mem_cons_self))
  obtain ⟨c0, hc0⟩ : ∃ c0, s[0]'hn = c0 := ⟨_, rfl⟩
  rw [hc0] at hk hkn
  have n43 : ((c0.toNat : Int) == 43) = false := by
    refine byte_ne' (k := 43) fun h43 => ?_
    have h0 := str_drop s 0 hn
    rw [hk, h43, if_neg (by decide), h0, hc0, h43] at hbody
    simp [rfBody, rfDigits, isDig, RS.zero] at hbody
  have hse : decide (s = ByteArray.empty) = false := by
    refine decide_eq_false fun h => ?_
    rw [h] at hn
    exact absurd hn (by decide)
  have HAL := Lib.hid hal2
  have HK := Lib.hid hk
  have HBODY := Lib.hid hbody
  have HKN := Lib.hid hkn
  have HFIN := Lib.hid hfin
  clear hal hal2 hk hbody hkn hfin h
  go_enter Tryz.func89, Tryz.ntmps89
  go_upto_block 0 with fail
  go_step3
  go_upto_block 0 with fail
  go_cut [4, 7] (fun v4 v7 wx => v4 = .bool neg ∧ v7 = .int .i64 (k : Nat) ∧ w = wx)
  case first =>
   as_aux_lemma =>
    by_cases h45 : c0 = 45
    · have HN := Lib.hid (show neg = true by rw [HKN.out, h45]; rfl)
      have HK1 := Lib.hid (show k = 1 by rw [HK.out, h45]; rfl)
      subst h45
      go_wp2_with fail
      go_meet
      exact ⟨by rw [HN.out], by rw [HK1.out]; rfl, rfl⟩
    · have HN := Lib.hid (show neg = false by rw [HKN.out]; simp [h45])
      have HK1 := Lib.hid (show k = 0 by rw [HK.out]; simp [h45])
      have n45 : ((c0.toNat : Int) == 45) = false := byte_ne' h45
      clear h45
      go_wp2_with fail
      go_meet
      exact ⟨by rw [HN.out], by rw [HK1.out]; rfl, rfl⟩
  case rest =>
    obtain ⟨rfl, rfl, rfl⟩ := hcut
    go_upto_region 12 with fail
    go_cut [54] (fun v wx => v = .bool false ∧ w = wx)
    case first =>
     as_aux_lemma =>
      by_cases h2 : k + 2 < s.size
      · have hk0 := HAL.out k (by omega)
        have hk1' := HAL.out (k + 1) (by omega)
        obtain ⟨ca, hca⟩ : ∃ ca, s[k]'(by omega) = ca := ⟨_, rfl⟩
        obtain ⟨cb, hcb⟩ : ∃ cb, s[k + 1]'(by omega) = cb := ⟨_, rfl⟩
        rw [hca] at hk0
        rw [hcb] at hk1'
        have hlx := (lower_num cb hk1').1
        clear hk0 hk1'
        by_cases h48 : ca = 48
        · subst h48
          go_wp2_with (first | (go_at_call 113; refine (lowerC _ _).mono ?_; rintro e w2 ⟨rfl, rfl⟩))
          go_meet
          exact ⟨rfl, rfl⟩
        · have n48 : ((ca.toNat : Int) == 48) = false := byte_ne' h48
          clear h48
          go_wp2_with (first | (go_at_call 113; refine (lowerC _ _).mono ?_; rintro e w2 ⟨rfl, rfl⟩))
          go_meet
          exact ⟨rfl, rfl⟩
      · go_wp2_with fail
        go_meet
        exact ⟨rfl, rfl⟩
    case rest =>
     as_aux_lemma =>
      obtain ⟨rfl, rfl⟩ := hcut
      go_wp2_with fail
      go_step3
      go_upto_block 1 with fail
      go_cut [2, 5, 7, 9, 13, 14, 15, 16, 17] (fun v2 v5 v7 v9 v13 v14 v15 v16 v17 wx => RfEnd s fin v2 v5 v7 v13 v14 v15 v16 v17 ∧ v9 = .bool false ∧ w = wx)
      case first =>
       as_aux_lemma =>
        go_wp2_with fail
        go_loopg [2, 5, 7, 9, 13, 14, 15, 16, 17] (s.size - k) (fun n v2 v5 v7 v9 v13 v14 v15 v16 v17 wx => w = wx ∧ v9 = .bool false ∧ ∃ i : Nat, ∃ st : RS, n = s.size - i ∧ st.slots i v2 v5 v7 v13 v14 v15 v16 v17 ∧ Aside (i ≤ s.size ∧ rfDigits st (s.data.toList.drop i) = fin ∧ st.Ok i))
        case atStart => exact ⟨rfl, rfl, k, .zero, rfl, ⟨rfl, rfl, rfl, rfl, rfl, rfl, rfl, rfl⟩, ⟨by omega, HFIN.out, (RS.Ok.start.later k).of_eq (by omega)⟩⟩
        case round =>
          obtain ⟨rfl, rfl, i, ⟨m1, nm, nd, dp, dot, dig, tr1⟩, rfl, ⟨rfl, rfl, rfl, rfl, rfl, rfl, rfl, rfl⟩, hA⟩ := hrel
          have hi := hA.out.1
          have hrun := hA.out.2.1
          have hok := hA.out.2.2
          have hnd := hok.nd
          have hdp1 := hok.dp1
          have hdp2 := hok.dp2
          have hnm := hok.nm
          have hm2 := hok.lim2
          simp only at hnd hdp1 hdp2 hnm hm2
          clear hA
          by_cases hlt : i < s.size
          · have hdrop := str_drop s i hlt
            have hnc := HAL.out i hlt
            obtain ⟨c, hc⟩ : ∃ c, s[i]'hlt = c := ⟨_, rfl⟩
            rw [hc] at hdrop hnc
            rw [hdrop] at hrun
            have n95 := (lower_num c hnc).2.2
            clear hnc
            by_cases h46 : c = 46
            · subst h46
              cases dot with
              | true =>
                as_aux_lemma =>
                  have he := (rfD_dot hrun).1 rfl
                  have HE := Lib.hid (And.intro he hdrop)
                  have HOK := Lib.hid hok
                  clear he hdrop hrun hok
                  go_wp2_with fail
                  go_meet
                  refine ⟨⟨i, by omega, ?_, ?_, ?_⟩, rfl, rfl⟩
                  · rw [HE.out.1]; exact ⟨rfl, rfl, rfl, rfl, rfl, rfl, rfl, rfl⟩
                  · rw [HE.out.1, HE.out.2]
                  · rw [HE.out.1]; exact HOK.out
              | false =>
                as_aux_lemma =>
                  have HRN := Lib.hid ((rfD_dot hrun).2 rfl)
                  have HOK2 := Lib.hid hok.pt
                  clear hdrop hrun hok
                  go_wp2_with fail
                  go_roundg (s.size - (i + 1))
                  case measure => omega
                  case rel => exact ⟨rfl, rfl, i + 1, _, rfl, ⟨rfl, rfl, rfl, rfl, rfl, rfl, rfl, rfl⟩, ⟨by omega, HRN.out, HOK2.out⟩⟩
            · have n46 : ((c.toNat : Int) == 46) = false := byte_ne' h46
              cases hdg : isDig c with
              | true =>
                have HRN := Lib.hid (rfD_dig hrun h46 hdg)
                have HOK2 := Lib.hid (hok.digit c hdg)
                have hd1 : (48 : Int) ≤ c.toNat := by have := dig_t hdg; omega
                have hd2 : (c.toNat : Int) ≤ 57 := by have := dig_t hdg; omega
                by_cases h48 : c = 48
                · subst h48
                  by_cases hnd0 : nd = 0
                  · subst hnd0
                    as_aux_lemma =>
                      have HX : Hid (RS.digit ⟨m1, nm, 0, dp, dot, dig, tr1⟩ 48 = ⟨m1, nm, 0, dp - 1, dot, true, tr1⟩) := Lib.hid (by unfold RS.digit; rw [if_pos ⟨rfl, rfl⟩])
                      rw [HX.out] at HRN HOK2
                      clear HX hdrop hrun hok h46 hdg
                      go_wp2_with fail
                      go_roundg (s.size - (i + 1))
                      case measure => omega
                      case rel => exact ⟨rfl, rfl, i + 1, _, rfl, ⟨rfl, rfl, rfl, rfl, rfl, rfl, rfl, rfl⟩, ⟨by omega, HRN.out, HOK2.out⟩⟩
                  · have nnd : ((nd : Int) == 0) = false := by simp only [beq_eq_false_iff_ne, ne_eq]; omega
                    by_cases hnm19 : nm < 19
                    · have hm18 := hok.lim hnm19
                      simp only at hm18
                      as_aux_lemma =>
                        have HX : Hid (RS.digit ⟨m1, nm, nd, dp, dot, dig, tr1⟩ 48 = ⟨m1 * 10, nm + 1, nd + 1, dp, dot, true, tr1⟩) := Lib.hid (by unfold RS.digit; rw [if_neg (fun h => hnd0 h.2), if_pos hnm19]; rfl)
                        rw [HX.out] at HRN HOK2
                        clear HX hdrop hrun hok h46 hdg
                        go_wp2_with fail
                        go_roundg (s.size - (i + 1))
                        case measure => omega
                        case rel => exact ⟨rfl, rfl, i + 1, _, rfl, ⟨rfl, rfl, rfl, rfl, rfl, rfl, rfl, rfl⟩, ⟨by omega, HRN.out, HOK2.out⟩⟩
                    · 
                      as_aux_lemma =>
                        have HX : Hid (RS.digit ⟨m1, nm, nd, dp, dot, dig, tr1⟩ 48 = ⟨m1, nm, nd + 1, dp, dot, true, tr1⟩) := Lib.hid (by unfold RS.digit; rw [if_neg (fun h => hnd0 h.2), if_neg hnm19]; simp)
                        rw [HX.out] at HRN HOK2
                        clear HX hdrop hrun hok h46 hdg
                        go_wp2_with fail
                        go_roundg (s.size - (i + 1))
                        case measure => omega
                        case rel => exact ⟨rfl, rfl, i + 1, _, rfl, ⟨rfl, rfl, rfl, rfl, rfl, rfl, rfl, rfl⟩, ⟨by omega, HRN.out, HOK2.out⟩⟩
                · have n48 : ((c.toNat : Int) == 48) = false := byte_ne' h48
                  have n48' : ((c.toNat : Int) != 48) = true := by simp only [bne, n48]; rfl
                  by_cases hnm19 : nm < 19
                  · have hm18 := hok.lim hnm19
                    simp only at hm18
                    as_aux_lemma =>
                      have HX : Hid (RS.digit ⟨m1, nm, nd, dp, dot, dig, tr1⟩ c = ⟨m1 * 10 + (c.toNat - 48), nm + 1, nd + 1, dp, dot, true, tr1⟩) := Lib.hid (by unfold RS.digit; rw [if_neg (fun h => h48 h.1), if_pos hnm19])
                      rw [HX.out] at HRN HOK2
                      clear HX hdrop hrun hok h46 hdg
                      go_wp2_with fail
                      go_roundg (s.size - (i + 1))
                      case measure => omega
                      case rel => exact ⟨rfl, rfl, i + 1, _, rfl, ⟨congrArg (Value.int .u64) (by simp only; omega), rfl, rfl, rfl, rfl, rfl, rfl, rfl⟩, ⟨by omega, HRN.out, HOK2.out⟩⟩
                  · 
                    as_aux_lemma =>
                      have HX : Hid (RS.digit ⟨m1, nm, nd, dp, dot, dig, tr1⟩ c = ⟨m1, nm, nd + 1, dp, dot, true, true⟩) := Lib.hid (by unfold RS.digit; rw [if_neg (fun h => h48 h.1), if_neg hnm19]; simp [h48])
                      rw [HX.out] at HRN HOK2
                      clear HX hdrop hrun hok h46 hdg
                      go_wp2_with fail
                      go_roundg (s.size - (i + 1))
                      case measure => omega
                      case rel => exact ⟨rfl, rfl, i + 1, _, rfl, ⟨rfl, rfl, rfl, rfl, rfl, rfl, rfl, rfl⟩, ⟨by omega, HRN.out, HOK2.out⟩⟩
              | false =>
                have he := rfD_end hrun h46 hdg
                have HE := Lib.hid (And.intro he hdrop)
                have HOK := Lib.hid hok
                have hdf := dig_f hdg
                clear he hdrop hrun hok
                by_cases hd1 : 48 ≤ c.toNat
                · as_aux_lemma =>
                    have hda : decide ((48 : Int) ≤ c.toNat) = true := by simp; omega
                    have hdb : decide ((c.toNat : Int) ≤ 57) = false := by simp; omega
                    clear hd1 hdf h46 hdg
                    go_wp2_with fail
                    go_meet
                    refine ⟨⟨i, by omega, ?_, ?_, ?_⟩, rfl, rfl⟩
                    · rw [HE.out.1]; exact ⟨rfl, rfl, rfl, rfl, rfl, rfl, rfl, rfl⟩
                    · rw [HE.out.1, HE.out.2]
                    · rw [HE.out.1]; exact HOK.out
                · as_aux_lemma =>
                    have hda : decide ((48 : Int) ≤ c.toNat) = false := by simp; omega
                    clear hd1 hdf h46 hdg
                    go_wp2_with fail
                    go_meet
                    refine ⟨⟨i, by omega, ?_, ?_, ?_⟩, rfl, rfl⟩
                    · rw [HE.out.1]; exact ⟨rfl, rfl, rfl, rfl, rfl, rfl, rfl, rfl⟩
                    · rw [HE.out.1, HE.out.2]
                    · rw [HE.out.1]; exact HOK.out
          · as_aux_lemma =>
              have hie : i = s.size := by omega
              subst hie
              have he : fin = (⟨m1, nm, nd, dp, dot, dig, tr1⟩, []) := by
                have h0 : s.data.toList.drop s.size = [] := List.drop_of_length_le (Nat.le_refl _)
                rw [h0] at hrun
                exact hrun.symm
              have HE := Lib.hid (And.intro he (show s.data.toList.drop s.size = [] from List.drop_of_length_le (Nat.le_refl _)))
              have HOK := Lib.hid hok
              clear he hrun hok hlt
              go_wp2_with fail
              go_meet
              refine ⟨⟨s.size, by omega, ?_, ?_, ?_⟩, rfl, rfl⟩
              · rw [HE.out.1]; exact ⟨rfl, rfl, rfl, rfl, rfl, rfl, rfl, rfl⟩
              · rw [HE.out.1, HE.out.2]
              · rw [HE.out.1]; exact HOK.out
      case rest =>
       as_aux_lemma =>
        obtain ⟨⟨i, hi, ⟨rfl, rfl, rfl, rfl, rfl, rfl, rfl, rfl⟩, hrest, hok⟩, rfl, rfl⟩ := hcut
        obtain ⟨⟨m1, nm, nd, dp, dot, dig, tr1⟩, rest⟩ := fin
        simp only at hrest hok
        have hbody := HBODY.out
        simp only [rfBody, HFIN.out] at hbody
        cases dig with
        | false => simp at hbody
        | true =>
        simp only [if_true, Option.map_eq_some_iff, Prod.mk.injEq] at hbody
        obtain ⟨x, hx, rfl, hex, rfl⟩ := hbody
        have hnd := hok.nd
        have hdp1 := hok.dp1
        have hdp2 := hok.dp2
        have hnm := hok.nm
        have hm2 := hok.lim2
        simp only at hnd hdp1 hdp2 hnm hm2
        have HX := Lib.hid (And.intro hx (And.intro hex hrest))
        clear hx hex hrest hok
        go_upto_if 142 with fail
        go_cut [17] (fun v17 wx => v17 = .int .i64 (RS.point ⟨m1, nm, nd, dp, dot, true, tr1⟩) ∧ w = wx)
        case first =>
         as_aux_lemma =>
          cases dot with
          | true =>
            go_wp2_with fail
            go_meet
            exact ⟨rfl, rfl⟩
          | false =>
            go_wp2_with fail
            go_meet
            exact ⟨rfl, rfl⟩
        case rest =>
         as_aux_lemma =>
          obtain ⟨rfl, rfl⟩ := hcut
          have hp1 : -1000000 ≤ RS.point ⟨m1, nm, nd, dp, dot, true, tr1⟩ ∧ RS.point ⟨m1, nm, nd, dp, dot, true, tr1⟩ ≤ 1000000 := by unfold RS.point; simp only; split <;> omega
          obtain ⟨P, hP⟩ : ∃ P, P = RS.point ⟨m1, nm, nd, dp, dot, true, tr1⟩ := ⟨_, rfl⟩
          rw [← hP] at hp1 HX ⊢
          obtain ⟨hpl, hpu⟩ := hp1
          clear hP
          go_upto_region 57 with fail
          go_cut [161] (fun v wx => v = .bool (decide (i < s.size)) ∧ w = wx)
          case first =>
           as_aux_lemma =>
            by_cases hlt : i < s.size
            · have hce : isExp (s[i]'hlt) = true := by
                have h1 := HX.out.1
                have h2 := HX.out.2.2
                rw [h2, str_drop s i hlt] at h1
                simp only [rfTail] at h1
                cases he : isExp (s[i]'hlt) with
                | true => rfl
                | false => rw [he] at h1; simp at h1
              have hnc := HAL.out i hlt
              have hdt : decide (i < s.size) = true := decide_eq_true hlt
              have HDT := Lib.hid hdt
              obtain ⟨c, hc⟩ : ∃ c, s[i]'hlt = c := ⟨_, rfl⟩
              rw [hc] at hnc hce
              have hle := (lower_num c hnc).2.1
              rw [hce] at hle
              clear hnc hce hdt
              go_wp2_with (first | (go_at_call 113; refine (lowerC _ _).mono ?_; rintro e w2 ⟨rfl, rfl⟩))
              go_meet
              exact ⟨by rw [HDT.out], rfl⟩
            · have hdt : decide (i < s.size) = false := decide_eq_false hlt
              have HDT := Lib.hid hdt
              clear hdt
              go_wp2_with fail
              go_meet
              exact ⟨by rw [HDT.out], rfl⟩
          case rest =>
           as_aux_lemma =>
            obtain ⟨rfl, rfl⟩ := hcut
            go_upto_if 161 with fail
            go_cut [7, 9, 17] (fun v7 v9 v17 wx => v7 = .int .i64 (s.size : Nat) ∧ v9 = .bool false ∧ v17 = .int .i64 (P + x) ∧ w = wx)
            case first =>
             as_aux_lemma =>
              by_cases hlt : i < s.size
              · obtain ⟨hj, e, hcs⟩ : ∃ hj : i + 1 < s.size, ∃ e : Nat, (s[i + 1]'hj = 43 ∧ rfExpEnd (s.data.toList.drop (i + 1 + 1)) = some e ∧ x = e) ∨ (s[i + 1]'hj = 45 ∧ rfExpEnd (s.data.toList.drop (i + 1 + 1)) = some e ∧ x = -(e : Int)) ∨ (s[i + 1]'hj ≠ 43 ∧ s[i + 1]'hj ≠ 45 ∧ rfExpEnd (s.data.toList.drop (i + 1)) = some e ∧ x = e) := by
                  have h1 := HX.out.1
                  have h2 := HX.out.2.2
                  rw [h2, str_drop s i hlt] at h1
                  simp only [rfTail] at h1
                  split at h1
                  · exact rfSigned_at h1
                  · cases h1
                obtain ⟨j, sg, hjj, hsg, hee, hxs, hj2⟩ : ∃ j : Nat, ∃ sg : Int, (j = i + 1 ∨ j = i + 2) ∧ (sg = 1 ∨ sg = -1) ∧ rfExpEnd (s.data.toList.drop j) = some e ∧ x = e * sg ∧ ((s[i + 1]'hj = 43 ∧ j = i + 2 ∧ sg = 1) ∨ (s[i + 1]'hj = 45 ∧ j = i + 2 ∧ sg = -1) ∨ (s[i + 1]'hj ≠ 43 ∧ s[i + 1]'hj ≠ 45 ∧ j = i + 1 ∧ sg = 1)) := by
                  rcases hcs with ⟨h1, h2, h3⟩ | ⟨h1, h2, h3⟩ | ⟨h1, h1', h2, h3⟩
                  · exact ⟨i + 2, 1, .inr rfl, .inl rfl, h2, by omega, .inl ⟨h1, rfl, rfl⟩⟩
                  · exact ⟨i + 2, -1, .inr rfl, .inr rfl, h2, by omega, .inr (.inl ⟨h1, rfl, rfl⟩)⟩
                  · exact ⟨i + 1, 1, .inl rfl, .inl rfl, h2, by omega, .inr (.inr ⟨h1, h1', rfl, rfl⟩)⟩
                obtain ⟨hjs, hjd, hexp⟩ := rfExpEnd_at hee
                have HX2 := Lib.hid (And.intro hexp hxs)
                have hdt : decide (i < s.size) = true := decide_eq_true hlt
                clear hcs hee hexp hxs HX
                go_upto_block 4 with fail
                go_cut [7, 19] (fun v7 v19 wx => v7 = .int .i64 (j : Nat) ∧ v19 = .int .i64 sg ∧ w = wx)
                case first =>
                 as_aux_lemma =>
                  clear hjd hsg hjj
                  obtain ⟨c, hc⟩ : ∃ c, s[i + 1]'hj = c := ⟨_, rfl⟩
                  rw [hc] at hj2
                  rcases hj2 with ⟨h1, rfl, rfl⟩ | ⟨h1, rfl, rfl⟩ | ⟨h1, h2, rfl, rfl⟩
                  · subst h1
                    go_wp2_with fail
                    go_meet
                    exact ⟨rfl, rfl, rfl⟩
                  · subst h1
                    go_wp2_with fail
                    go_meet
                    exact ⟨rfl, rfl, rfl⟩
                  · have n43' : ((c.toNat : Int) == 43) = false := byte_ne' h1
                    have n45' : ((c.toNat : Int) == 45) = false := byte_ne' h2
                    clear h1 h2
                    go_wp2_with fail
                    go_meet
                    exact ⟨rfl, rfl, rfl⟩
                case rest =>
                 as_aux_lemma =>
                  obtain ⟨rfl, rfl, rfl⟩ := hcut
                  clear hj2
                  go_upto_region 67 with fail
                  go_cut [194] (fun v wx => v = .bool false ∧ w = wx)
                  case first =>
                   as_aux_lemma =>
                    obtain ⟨c, hc⟩ : ∃ c, s[j]'hjs = c := ⟨_, rfl⟩
                    rw [hc] at hjd
                    have hd1 : ¬ ((c.toNat : Int) < 48) := by have := dig_t hjd; omega
                    have hd2 : ¬ ((57 : Int) < c.toNat) := by have := dig_t hjd; omega
                    clear hjd hsg hjj
                    go_wp2_with fail
                    go_meet
                    exact ⟨by rw [decide_eq_false (by omega)], rfl⟩
                  case rest =>
                   as_aux_lemma =>
                    obtain ⟨rfl, rfl⟩ := hcut
                    clear hjd
                    go_upto_block 5 with fail
                    go_cut [7, 9, 20] (fun v7 v9 v20 wx => v7 = .int .i64 (s.size : Nat) ∧ v9 = .bool false ∧ v20 = .int .i64 (e : Nat) ∧ w = wx)
                    case first =>
                     as_aux_lemma =>
                      go_wp2_with fail
                      go_loopg [7, 9, 20] (s.size - j) (fun n v7 v9 v20 wx => w = wx ∧ v9 = .bool false ∧ ∃ i2 e2 : Nat, n = s.size - i2 ∧ v7 = .int .i64 (i2 : Nat) ∧ v20 = .int .i64 (e2 : Nat) ∧ Aside (i2 ≤ s.size ∧ rfExp e2 (s.data.toList.drop i2) = (e, []) ∧ e2 ≤ 99999))
                      case atStart => exact ⟨rfl, rfl, j, 0, rfl, rfl, rfl, ⟨by omega, HX2.out.1, by omega⟩⟩
                      case round =>
                        obtain ⟨rfl, rfl, i2, e2, rfl, rfl, rfl, hA⟩ := hrel
                        have hi2 := hA.out.1
                        have hr2 := hA.out.2.1
                        have he2 := hA.out.2.2
                        clear hA
                        by_cases hl2 : i2 < s.size
                        · have hdrop := str_drop s i2 hl2
                          obtain ⟨c, hc⟩ : ∃ c, s[i2]'hl2 = c := ⟨_, rfl⟩
                          rw [hc] at hdrop
                          rw [hdrop, rfExp] at hr2
                          cases hdg : isDig c with
                          | false => rw [hdg] at hr2; simp at hr2
                          | true =>
                            rw [hdg] at hr2
                            simp only [if_true] at hr2
                            have hle := expDigit_le hdg he2
                            have hd1 : (48 : Int) ≤ c.toNat := by have := dig_t hdg; omega
                            have hd2 : (c.toNat : Int) ≤ 57 := by have := dig_t hdg; omega
                            have n95 : ((c.toNat : Int) == 95) = false := by simp only [beq_eq_false_iff_ne, ne_eq]; omega
                            by_cases hlim : e2 < 10000
                            · have hed : expDigit e2 c = e2 * 10 + (c.toNat - 48) := by unfold expDigit; rw [if_pos hlim]
                              rw [hed] at hr2 hle
                              have HR2 := Lib.hid hr2
                              clear hr2 hdrop hdg hed
                              go_wp2_with fail
                              go_roundg (s.size - (i2 + 1))
                              case measure => omega
                              case rel => exact ⟨rfl, rfl, i2 + 1, e2 * 10 + (c.toNat - 48), rfl, rfl, congrArg (Value.int .i64) (by omega), ⟨by omega, HR2.out, hle⟩⟩
                            · have hed : expDigit e2 c = e2 := by unfold expDigit; rw [if_neg hlim]
                              rw [hed] at hr2 hle
                              have HR2 := Lib.hid hr2
                              clear hr2 hdrop hdg hed
                              go_wp2_with fail
                              go_roundg (s.size - (i2 + 1))
                              case measure => omega
                              case rel => exact ⟨rfl, rfl, i2 + 1, e2, rfl, rfl, rfl, ⟨by omega, HR2.out, hle⟩⟩
                        · obtain rfl : i2 = s.size := by omega
                          have h0 : s.data.toList.drop s.size = [] := List.drop_of_length_le (Nat.le_refl _)
                          rw [h0, rfExp] at hr2
                          have HR2 := Lib.hid (Prod.mk.inj hr2).1
                          clear hr2 h0
                          go_wp2_with fail
                          go_meet
                          exact ⟨rfl, rfl, by rw [HR2.out], rfl⟩
                    case rest =>
                     as_aux_lemma =>
                      obtain ⟨rfl, rfl, rfl, rfl⟩ := hcut
                      have hle : e ≤ 99999 := by
                        have := rfExp_le (s.data.toList.drop j) 0 (by omega)
                        rw [HX2.out.1] at this
                        exact this
                      rcases hsg with rfl | rfl
                      · go_wp2_with fail
                        go_meet
                        exact ⟨rfl, rfl, congrArg (Value.int .i64) (by rw [HX2.out.2]; omega), rfl⟩
                      · go_wp2_with fail
                        go_meet
                        exact ⟨rfl, rfl, congrArg (Value.int .i64) (by rw [HX2.out.2]; omega), rfl⟩
              · have hie : i = s.size := by omega
                have hx0 : x = 0 := by
                  have h1 := HX.out.1
                  have h2 := HX.out.2.2
                  have h0 : s.data.toList.drop i = [] := List.drop_of_length_le (by rw [hie]; exact Nat.le_refl _)
                  rw [h2, h0] at h1
                  simp [rfTail] at h1
                  exact h1.symm
                have hdt : decide (i < s.size) = false := decide_eq_false hlt
                have HX0 := Lib.hid hx0
                have HIE := Lib.hid hie
                clear hx0 hie HX
                go_wp2_with fail
                go_meet
                exact ⟨by rw [HIE.out], rfl, congrArg (Value.int .i64) (by rw [HX0.out]; omega), rfl⟩
            case rest =>
             as_aux_lemma =>
              obtain ⟨rfl, rfl, rfl, rfl⟩ := hcut
              have hxb := rfTail_le HX.out.1
              by_cases hm0 : m1 = 0
              · have hex0 : ex = 0 := by rw [← HX.out.2.1, if_pos hm0]
                subst hm0
                have HEX := Lib.hid hex0
                clear hex0
                go_wp2_with fail
                try rw [Exit.noGoto_ret]
                exact bodyPost_ret (v := .tuple #[.int .u64 0, .int .i64 0, .bool neg, .bool tr1, .bool false, .int .i64 s.size, .bool true]) (by simp [results, Tryz.results89, go_sem]) rfl ⟨by rw [HEX.out]; rfl, rfl⟩
              · have hex1 : ex = P + x - nm := by rw [← HX.out.2.1, if_neg hm0]
                have nm0 : ((m1 : Int) != 0) = true := by simp only [bne_iff_ne, ne_eq]; omega
                have HEX := Lib.hid hex1
                clear hex1
                go_wp2_with fail
                try rw [Exit.noGoto_ret]
                exact bodyPost_ret (v := .tuple #[.int .u64 m1, .int .i64 (P + x - nm), .bool neg, .bool tr1, .bool false, .int .i64 s.size, .bool true]) (by simp [results, Tryz.results89, go_sem]) rfl ⟨by rw [HEX.out], rfl⟩

end Go.Proofs.YtdabllkphibfmaaGreatDoor
