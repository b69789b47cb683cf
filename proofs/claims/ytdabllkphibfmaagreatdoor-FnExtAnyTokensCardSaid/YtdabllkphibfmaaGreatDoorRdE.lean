/- decAll, ExtInt of the reference, by their contracts. -/
import Derived.Test.YtdabllkphibfmaaGreatDoorRdD
import Derived.Test.YtdabllkphibfmaaGreatDoorFloW
import Derived.Deep.CutBlock
namespace Go.Proofs.YtdabllkphibfmaaGreatDoor
open Go Go.RowKit
set_option linter.unusedSimpArgs false
set_option linter.unusedVariables false

set_option maxRecDepth 100000 in
set_option maxHeartbeats 4000000 in
theorem decAll (s : ByteArray) (hd : ∀ i (hi : i < s.size), isDig (s[i]'hi) = true) (hl : s.size ≤ 1000000) (w : World) : Calls Tryz.prog 64 #[.string s] w fun e w' => e = .returned (.bool true) ∧ w = w' := by
  have HD := Lib.hid hd
  clear hd
  go_enter Tryz.func64, Tryz.ntmps64
  go_wp2
  go_loop [3] (fun i => ∃ k : Nat, k ≤ s.size ∧ i = .int .i64 (k : Nat)) (fun i => s.size - (intOf i).toNat)
  case atStart => exact ⟨0, by omega, rfl⟩
  case round =>
    obtain ⟨k, hk, rfl⟩ := hrel
    by_cases hlt : k < s.size
    · have hdg := HD.out k hlt
      obtain ⟨c, hc⟩ : ∃ c, s[k]'hlt = c := ⟨_, rfl⟩
      rw [hc] at hdg
      have hd1 : (48 : Int) ≤ c.toNat := by have := dig_t hdg; omega
      have hd2 : (c.toNat : Int) ≤ 57 := by have := dig_t hdg; omega
      clear hdg
      go_wp2
      go_round
      case rel => exact ⟨k + 1, by omega, by go_num⟩
      case measure => simp [intOf]; omega
    · go_wp2
      go_ret
      exact ⟨rfl, rfl⟩

def IntPost (o : Option Int) (w : World) (e : Ending) (w' : World) : Prop := ∃ v : Int, e = .returned (.tuple #[.int .i64 v, .bool o.isSome]) ∧ (∀ x, o = some x → v = x) ∧ w = w'

theorem int_no (o : Option Int) (h : o = none) (v : Int) (w : World) : IntPost o w (.returned (.tuple #[.int .i64 v, .bool false])) w := by subst h; exact ⟨v, rfl, fun x h => (by cases h), rfl⟩
theorem int_yes (o : Option Int) (v : Int) (h : o = some v) (w : World) : IntPost o w (.returned (.tuple #[.int .i64 v, .bool true])) w := by subst h; exact ⟨v, rfl, fun x h => (by injection h), rfl⟩

theorem decVal_cons (n : Nat) (c : UInt8) (r : List UInt8) : decVal n (c :: r) = decVal (n * 10 + (c.toNat - 48)) r := by with_unfolding_all rfl
theorem decVal_nil (n : Nat) : decVal n [] = n := by with_unfolding_all rfl

/-- 2^63, by a name. -/
def b63 : Nat := 9223372036854775808
theorem int_big {n c : Nat} (h : b63 < n * 10 + (c - 48)) (h1 : (48 : Int) ≤ c) (h2 : (c : Int) ≤ 57) : decide ((9223372036854775808 - ((c : Int) - 48)) / 10 < (n : Int)) = true := by unfold b63 at h; exact decide_eq_true (by omega)
theorem int_small {n c : Nat} (h : n * 10 + (c - 48) ≤ b63) (h1 : (48 : Int) ≤ c) (h2 : (c : Int) ≤ 57) : decide ((9223372036854775808 - ((c : Int) - 48)) / 10 < (n : Int)) = false := by unfold b63 at h; exact decide_eq_false (by omega)
theorem int_none {neg : Bool} {l : List UInt8} {V x : Nat} (hV : decVal 0 l = V) (h : b63 < x) (hx : x ≤ V) : int64Of neg l = none := by
  unfold b63 at h
  unfold int64Of
  rw [hV]
  split
  · rw [if_neg (by omega)]
  · rw [if_neg (by omega)]
theorem int_pos {l : List UInt8} {n : Nat} (hV : decVal 0 l = n) (h : n < b63) : int64Of false l = some (n : Int) := by
  unfold b63 at h
  unfold int64Of
  rw [hV, if_neg (by decide), if_pos h]
theorem int_top {l : List UInt8} {n : Nat} (hV : decVal 0 l = n) (h : b63 ≤ n) : int64Of false l = none := by
  unfold b63 at h
  unfold int64Of
  rw [hV, if_neg (by decide), if_neg (by omega)]
theorem int_neg {l : List UInt8} {n : Nat} (hV : decVal 0 l = n) (h : n ≤ b63) : int64Of true l = some (-(n : Int)) := by
  unfold b63 at h
  unfold int64Of
  rw [hV, if_pos rfl, if_pos h]
theorem int_lt {n : Nat} (h : n < b63) : decide ((n : Int) < 9223372036854775808) = true := decide_eq_true (by unfold b63 at h; omega)
theorem int_ge {n : Nat} (h : b63 ≤ n) : decide ((n : Int) < 9223372036854775808) = false := decide_eq_false (by unfold b63 at h; omega)
theorem int_less (o : Option Int) (n : Nat) (h : o = some (-(n : Int))) (hn : n ≤ b63) (w : World) : IntPost o w (.returned (.tuple #[.int .i64 (wrap64 (wrap64 (-wrap64 (IntKind.u64.wrap ((n : Int) - 1))) - 1)), .bool true])) w := by
  have e : wrap64 (wrap64 (-wrap64 (IntKind.u64.wrap ((n : Int) - 1))) - 1) = -(n : Int) := by
    unfold b63 at hn
    unfold wrap64
    rw [IntKind.wrap_u64]
    omega
  rw [e]
  exact int_yes o _ h w
theorem int_wrap {n c : Nat} (h1 : (48 : Int) ≤ c) (h2 : (c : Int) ≤ 57) (h : n * 10 + (c - 48) ≤ b63) : Value.int .u64 (IntKind.u64.wrap (IntKind.u64.wrap ((n : Int) * 10) + ((c : Int) - 48))) = Value.int .u64 ((n * 10 + (c - 48) : Nat) : Int) := by
  unfold b63 at h
  rw [IntKind.wrap_u64, IntKind.wrap_u64]
  congr 1
  omega
theorem int_yes' {o : Option Int} {n : Nat} (h : o = some (n : Int)) (hn : n < b63) (w : World) : IntPost o w (.returned (.tuple #[.int .i64 (wrap64 n), .bool true])) w := by
  have e : wrap64 (n : Int) = n := by unfold b63 at hn; unfold wrap64; omega
  rw [e]
  exact int_yes o _ h w

def IntR (t : ByteArray) (V m : Nat) (v8 v9 : Value) : Prop := ∃ i n : Nat, m = t.size - i ∧ i ≤ t.size ∧ v8 = .int .u64 n ∧ v9 = .int .i64 i ∧ n ≤ b63 ∧ decVal n (t.data.toList.drop i) = V

set_option maxRecDepth 100000 in
set_option maxHeartbeats 4000000 in
theorem extInt (s : ByteArray) (hn : 0 < s.size) (neg : Bool) (t : ByteArray) (ht0 : 0 < t.size) (h : (neg = true ∧ s[0]'hn = 45 ∧ t = s.extract 1 s.size) ∨ (neg = false ∧ t = s)) (hd : ∀ i (hi : i < t.size), isDig (t[i]'hi) = true) (hl : s.size ≤ 1000000) (htl : t.size ≤ 1000000) (w : World) :
    Calls Tryz.prog 46 #[.string s, .int .i64 64] w (IntPost (int64Of neg t.data.toList) w) := by
  have hse := not_empty hn
  have hsn := not_nil' hn
  have hte := not_empty ht0
  have htn := not_nil' ht0
  obtain ⟨c0, hc0⟩ : ∃ c0, s[0]'hn = c0 := ⟨_, rfl⟩
  rw [hc0] at h
  have HD := Lib.hid hd
  have HH := Lib.hid h
  clear hd h
  go_enter Tryz.func46, Tryz.ntmps46
  go_upto_region 2 with fail
  go_cut [22] (fun v wx => v = .bool neg ∧ w = wx)
  case first =>
    as_aux_lemma =>
    rcases HH.out with ⟨h1, h2, h3⟩ | ⟨h1, h3⟩
    · subst h2
      have HE := Lib.hid h1
      clear h1 h3
      go_wp2
      go_meet
      exact ⟨by rw [HE.out], rfl⟩
    · subst h3
      have hdg := HD.out 0 hn
      rw [hc0] at hdg
      have n45 : ((c0.toNat : Int) == 45) = false := byte_ne' (k := 45) (fun h => by rw [h] at hdg; revert hdg; decide)
      have n43 : ((c0.toNat : Int) == 43) = false := byte_ne' (k := 43) (fun h => by rw [h] at hdg; revert hdg; decide)
      have HE := Lib.hid h1
      clear h1 hdg
      go_wp2
      go_meet
      exact ⟨by rw [HE.out], rfl⟩
  case rest =>
  obtain ⟨rfl, rfl⟩ := hcut
  clear hse hsn
  go_upto_if 22 with fail
  go_cut [0, 6] (fun v0 v6 wx => v0 = .string t ∧ v6 = .bool neg ∧ w = wx)
  case first =>
    as_aux_lemma =>
    rcases HH.out with ⟨h1, h2, h3⟩ | ⟨h1, h3⟩
    · subst h2
      subst h1
      have HE := Lib.hid h3
      clear h3
      go_wp2
      go_meet
      exact ⟨by rw [HE.out], rfl, rfl⟩
    · subst h3
      subst h1
      go_wp2
      go_meet
      exact ⟨rfl, rfl, rfl⟩
  case rest =>
    as_aux_lemma =>
    obtain ⟨rfl, rfl, rfl⟩ := hcut
    have HDA := Lib.hid (fun w => decAll t HD.out htl w)
    obtain ⟨V, hV⟩ : ∃ V, decVal 0 t.data.toList = V := ⟨_, rfl⟩
    have HV := Lib.hid hV
    clear hV
    go_wp2_with (first | (go_at_call 64; refine (HDA.out _).mono ?_; rintro e w2 ⟨rfl, rfl⟩))
    clear hte htn HH hc0
    go_loopg [8, 9] t.size (fun m v8 v9 wx => Aside (IntR t V m v8 v9) ∧ w = wx)
    case atStart => exact ⟨⟨0, 0, rfl, by omega, rfl, rfl, by omega, HV.out⟩, rfl⟩
    case round =>
      obtain ⟨hr, rfl⟩ := hrel
      obtain ⟨i, n, rfl, hi, rfl, rfl, hnn, hrun⟩ := hr.out
      clear hr
      by_cases hlt : i < t.size
      · have hdg := HD.out i hlt
        have hdrop := str_drop t i hlt
        obtain ⟨c, hc⟩ : ∃ c, t[i]'hlt = c := ⟨_, rfl⟩
        rw [hc] at hdg hdrop
        rw [hdrop, decVal_cons] at hrun
        have hd1 : (48 : Int) ≤ c.toNat := by have := dig_t hdg; omega
        have hd2 : (c.toNat : Int) ≤ 57 := by have := dig_t hdg; omega
        have hge := decVal_ge (t.data.toList.drop (i + 1)) (n * 10 + (c.toNat - 48))
        rw [hrun] at hge
        have HR := Lib.hid hrun
        clear hrun hdrop hdg
        rcases Nat.lt_or_ge b63 (n * 10 + (c.toNat - 48)) with hbig | hbig
        · have HN : Hid (int64Of neg t.data.toList = none) := Lib.hid (int_none HV.out hbig hge)
          have htst := int_big hbig hd1 hd2
          clear hge hbig hnn
          as_aux_lemma =>
          go_wp2
          go_ret2
          exact int_no _ HN.out 0 w
        · have htst := int_small hbig hd1 hd2
          have HB : Hid (n * 10 + (c.toNat - 48) ≤ b63) := Lib.hid hbig
          have HNN := Lib.hid hnn
          clear hge hbig hnn
          as_aux_lemma =>
          go_wp2
          go_roundg (t.size - (i + 1))
          case measure => omega
          case rel => exact ⟨⟨i + 1, n * 10 + (c.toNat - 48), rfl, by omega, int_wrap hd1 hd2 HB.out, rfl, HB.out, HR.out⟩, rfl⟩
      · obtain rfl : i = t.size := by omega
        have h0 : t.data.toList.drop t.size = [] := List.drop_of_length_le (Nat.le_refl _)
        rw [h0, decVal_nil] at hrun
        subst hrun
        have HNN := Lib.hid hnn
        clear hnn
        as_aux_lemma =>
        cases neg with
        | true =>
          have HY : Hid (int64Of true t.data.toList = some (-(n : Int))) := Lib.hid (int_neg HV.out HNN.out)
          go_wp2
          go_ret2
          exact int_less _ n HY.out HNN.out w
        | false =>
          rcases Nat.lt_or_ge n b63 with hm | hm
          · have HY : Hid (int64Of false t.data.toList = some (n : Int)) := Lib.hid (int_pos HV.out hm)
            have hdt := int_lt hm
            have HM := Lib.hid hm
            clear hm
            go_wp2
            go_ret2
            exact int_yes' HY.out HM.out w
          · have HY : Hid (int64Of false t.data.toList = none) := Lib.hid (int_top HV.out hm)
            have hdt := int_ge hm
            clear hm
            go_wp2
            go_ret2
            exact int_no _ HY.out _ w

end Go.Proofs.YtdabllkphibfmaaGreatDoor
