/- The reference's reader of tokens: its block; gap, over, extNibble, unit. -/
import Derived.Test.YtdabllkphibfmaaGreatDoorRdA
import Derived.Test.YtdabllkphibfmaaGreatDoorFloW
import Derived.Laws.BitsLemmas
import Derived.Deep.QuietTactic
import Derived.BigQuiet
namespace Go.Proofs.YtdabllkphibfmaaGreatDoor
open Go Go.RowKit
set_option linter.unusedSimpArgs false
set_option linter.unusedVariables false

/-- A hexadecimal digit. -/
def NibPost (o : Option Nat) (w : World) (e : Ending) (w' : World) : Prop := e = .returned (.tuple #[.int .i64 ((o.getD 0 : Nat) : Int), .bool o.isSome]) ∧ w = w'

set_option maxRecDepth 100000 in
theorem nibble (c : UInt8) (w : World) : Calls Tryz.prog 63 #[.int .u8 (c.toNat : Int)] w (NibPost (hexv c) w) := by
  have h256 : (c.toNat : Int) < 256 := by have := c.toNat_lt; omega
  by_cases h1 : 48 ≤ c.toNat ∧ c.toNat ≤ 57
  · obtain ⟨a1, a2⟩ := h1
    have HX := Lib.hid (show hexv c = some (c.toNat - 48) by unfold hexv; rw [if_pos ⟨a1, a2⟩])
    have b1 : (48 : Int) ≤ c.toNat := by omega
    have b2 : (c.toNat : Int) ≤ 57 := by omega
    clear a1 a2
    go_enter Tryz.func63, Tryz.ntmps63
    go_wp2
    go_ret2
    exact ⟨by rw [HX.out]; simp; omega, rfl⟩
  by_cases h2 : 97 ≤ c.toNat ∧ c.toNat ≤ 102
  · obtain ⟨a1, a2⟩ := h2
    have HX := Lib.hid (show hexv c = some (c.toNat - 87) by unfold hexv; rw [if_neg h1, if_pos ⟨a1, a2⟩])
    have b1 : (97 : Int) ≤ c.toNat := by omega
    have b2 : (c.toNat : Int) ≤ 102 := by omega
    clear a1 a2 h1
    go_enter Tryz.func63, Tryz.ntmps63
    go_wp2
    go_ret2
    exact ⟨by rw [HX.out]; simp; omega, rfl⟩
  by_cases h3 : 65 ≤ c.toNat ∧ c.toNat ≤ 70
  · obtain ⟨a1, a2⟩ := h3
    have HX := Lib.hid (show hexv c = some (c.toNat - 55) by unfold hexv; rw [if_neg h1, if_neg h2, if_pos ⟨a1, a2⟩])
    have b1 : (65 : Int) ≤ c.toNat := by omega
    have b2 : (c.toNat : Int) ≤ 70 := by omega
    clear a1 a2 h1 h2
    go_enter Tryz.func63, Tryz.ntmps63
    go_wp2
    go_ret2
    exact ⟨by rw [HX.out]; simp; omega, rfl⟩
  · have HX := Lib.hid (show hexv c = none by unfold hexv; rw [if_neg h1, if_neg h2, if_neg h3])
    have d1 : (decide ((48 : Int) ≤ c.toNat) && decide ((c.toNat : Int) ≤ 57)) = false := by simp; omega
    have d2 : (decide ((97 : Int) ≤ c.toNat) && decide ((c.toNat : Int) ≤ 102)) = false := by simp; omega
    have d3 : (decide ((65 : Int) ≤ c.toNat) && decide ((c.toNat : Int) ≤ 70)) = false := by simp; omega
    go_enter Tryz.func63, Tryz.ntmps63
    go_wp2
    all_goals first | (go_ret2; exact ⟨by rw [HX.out]; rfl, rfl⟩) | (exfalso; simp_all; omega) | (exfalso; omega)

theorem nibQ (c : UInt8) (o : Option Nat) (ho : hexv c = o) (w : World) : Calls Tryz.prog 63 #[.int .u8 (c.toNat : Int)] w fun e w' => e = .returned (.tuple #[.int .i64 ((o.getD 0 : Nat) : Int), .bool o.isSome]) ∧ w' = w := (nibble c w).mono fun _ _ ⟨h1, h2⟩ => ⟨ho ▸ h1, h2.symm⟩

/-- Some hexadecimal digits. -/
def hexs : Nat → List UInt8 → Option Nat
  | acc, [] => some acc
  | acc, c :: r => match hexv c with | some d => hexs (acc * 16 + d) r | none => none

theorem hexv_lt {c : UInt8} {d : Nat} (h : hexv c = some d) : d < 16 := by
  unfold hexv at h
  split at h
  · injection h with h; omega
  · split at h
    · injection h with h; omega
    · split at h
      · injection h with h; omega
      · cases h

theorem hexs_u4 (a b c d : UInt8) : hexs 0 [a, b, c, d] = u4 a b c d := by
  unfold u4
  cases ha : hexv a <;> cases hb : hexv b <;> cases hc : hexv c <;> cases hd : hexv d <;> simp [hexs, ha, hb, hc, hd]
  omega

theorem or4 {x y : Int} (h0 : 0 ≤ x) (h1 : x < 1048576) (h2 : 0 ≤ y) (h3 : y < 16) : bits .or .i64 (x * 16) y = x * 16 + y :=
  bits_join .i64 62 (by decide) (fun n a b => by rw [IntKind.wrap_i64]; omega) 4 (x * 16) y (by omega) (by omega) (by omega) h2 (by omega) (by omega)

/-- Four hexadecimal digits: what unit gives. -/
def UnitPost (b : Nat) (s : ByteArray) (q : Nat) (far : Bool) (w : World) (e : Ending) (w' : World) : Prop :=
  ∃ q' : Nat, q ≤ q' ∧ q' ≤ s.size ∧ RdAt b s q' far w' ∧ Fb1 b w w' ∧
    ((∃ n : Nat, n < 65536 ∧ q' = q + 4 ∧ hexs 0 ((s.data.toList.drop q).take 4) = some n ∧ e = .returned (.tuple #[.int .i64 n, .bool true])) ∨
     ((hexs 0 ((s.data.toList.drop q).take 4) = none ∨ s.size < q + 4) ∧ e = .returned (.tuple #[.int .i64 0, .bool false])))

def UnitR (b : Nat) (s : ByteArray) (q : Nat) (far : Bool) (w : World) (m : Nat) (v3 v4 : Value) (wx : World) : Prop :=
  ∃ i n p : Nat, m = 4 - i ∧ i ≤ 4 ∧ p = q + i ∧ p ≤ s.size ∧ v3 = .int .i64 n ∧ v4 = .int .i64 i ∧ n < 16 ^ i ∧ hexs n ((s.data.toList.drop p).take (4 - i)) = hexs 0 ((s.data.toList.drop q).take 4) ∧ RdAt b s p far wx ∧ Fb1 b w wx

set_option maxRecDepth 100000 in
set_option maxHeartbeats 400000 in
theorem unit (b : Nat) (s : ByteArray) (q : Nat) (far : Bool) (w : World) (h : RdAt b s q far w) (hq : q ≤ s.size) (hl : s.size ≤ 1000000) :
    Calls Tryz.prog 44 #[.pointer (some ⟨b, 0, none⟩)] w (UnitPost b s q far w) := by
  have H := Lib.hid h
  clear h
  go_enter Tryz.func44, Tryz.ntmps44
  go_wp2
  go_loopg [4, 5] 4 (fun m v3 v4 wx => Aside (UnitR b s q far w m v3 v4 wx))
  case atStart => exact ⟨0, 0, q, rfl, by omega, rfl, hq, rfl, rfl, by decide, rfl, H.out, Fr.refl _ _⟩
  case round =>
    obtain ⟨i, n, p, rfl, hi, hp, hqi, rfl, rfl, hn, hx, hR, hf⟩ := hrel.out
    clear hrel
    obtain ⟨c0, c1, c2, cf⟩ := cell3 hR
    have HR := Lib.hid hR
    have HF := Lib.hid hf
    have HX := Lib.hid hx
    have hn4 : n < 65536 := Nat.lt_of_lt_of_le hn (Nat.pow_le_pow_right (by decide) hi)
    have HN := Lib.hid hn
    have HP := Lib.hid hp
    clear hR hf hx hn hp
    by_cases h4 : i < 4
    · by_cases hlt : p < s.size
      · have hdrop := str_drop s p hlt
        obtain ⟨c, hc⟩ : ∃ c, s[p]'hlt = c := ⟨_, rfl⟩
        rw [hc] at hdrop
        obtain ⟨j, hj⟩ : ∃ j, 4 - i = j + 1 := ⟨4 - i - 1, by omega⟩
        have hx2 := HX.out
        rw [hdrop, hj, List.take_succ_cons] at hx2
        simp only [hexs] at hx2
        cases hv : hexv c with
        | none =>
          rw [hv] at hx2
          have HX2 := Lib.hid hx2.symm
          have HV := Lib.hid hv
          clear hx2 hv hdrop hj
          as_aux_lemma =>
          go_wp2
          go_quiet (fail)
          go_wp2
          go_quiet ((go_at_call 63; exact quietMore (nibQ _ _ HV.out)))
          go_wp2
          go_ret2
          exact ⟨p, by have := HP.out; omega, hqi, HR.out.drewN _, HF.out.drewN _, .inr ⟨.inl HX2.out, rfl⟩⟩
        | some d =>
          rw [hv] at hx2
          have hd := hexv_lt hv
          have hn3 : n < 4096 := Nat.lt_of_lt_of_le HN.out (show 16 ^ i ≤ 16 ^ 3 from Nat.pow_le_pow_right (by decide) (by omega))
          have HX2 : Hid (hexs (n * 16 + d) ((s.data.toList.drop (p + 1)).take (4 - (i + 1))) = hexs 0 ((s.data.toList.drop q).take 4)) := Lib.hid (by
            rw [← hx2]
            have e1 : 4 - (i + 1) = j := by omega
            rw [e1])
          have HN2 : Hid (n * 16 + d < 16 ^ (i + 1)) := Lib.hid (by have := HN.out; rw [Nat.pow_succ]; omega)
          have HV := Lib.hid hv
          have HO : bits .or .i64 ((n : Int) * 16) (d : Int) = (n : Int) * 16 + d := or4 (by omega) (by omega) (by omega) (by omega)
          clear hx2 hv hdrop hj
          as_aux_lemma =>
          go_wp2
          go_quiet (fail)
          go_wp2
          go_quiet ((go_at_call 63; exact quietMore (nibQ _ _ HV.out)))
          go_wp2
          go_roundg (4 - (i + 1))
          case measure => omega
          case rel => exact ⟨i + 1, n * 16 + d, p + 1, rfl, by omega, by have := HP.out; omega, by omega, rfl, rfl, HN2.out, HX2.out, (HR.out.drewN _).go (p + 1), (HF.out.drewN _).setCell (.inl rfl) _⟩
      · as_aux_lemma =>
        have hge : s.size ≤ p := by omega
        go_wp2
        go_quiet (fail)
        go_wp2
        go_ret2
        exact ⟨p, by have := HP.out; omega, hqi, HR.out.drewN _, HF.out.drewN _, .inr ⟨.inr (by have := HP.out; omega), rfl⟩⟩
    · obtain rfl : i = 4 := by omega
      as_aux_lemma =>
      have HX2 := Lib.hid (show hexs 0 ((s.data.toList.drop q).take 4) = some n from HX.out.symm)
      go_wp2_with fail
      go_ret2
      exact ⟨p, by have := HP.out; omega, hqi, HR.out, HF.out, .inl ⟨n, hn4, HP.out, HX2.out, rfl⟩⟩

end Go.Proofs.YtdabllkphibfmaaGreatDoor
