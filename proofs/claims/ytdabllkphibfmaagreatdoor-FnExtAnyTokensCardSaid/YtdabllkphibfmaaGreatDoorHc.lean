/- shouldRoundUp and RoundedInteger: one answer each. -/
import Derived.Test.YtdabllkphibfmaaGreatDoorHb
import Derived.ScopeJumps
namespace Go.Proofs.YtdabllkphibfmaaGreatDoor
open Go Go.RowKit
set_option linter.unusedSimpArgs false
set_option linter.unusedVariables false

def sruF (S : Dec) (x : Int) : Bool :=
  if x < 0 ∨ (S.nd : Int) ≤ x then false
  else if S.d x.toNat = 53 ∧ x.toNat + 1 = S.nd then (if S.tr then true else decide (0 < x.toNat) && decide ((S.d (x.toNat - 1) - 48) % 2 ≠ 0))
  else decide (53 ≤ S.d x.toNat)

set_option maxRecDepth 1000000 in
set_option maxHeartbeats 4000000 in
theorem sru (g : Nat) (S : Dec) (x : Int) (w : World) (h : DecAt g S w) (ho : DecOk S) : Calls Tryz.prog 132 #[.pointer (some ⟨g, 0, none⟩), .int .i64 x] w fun e w' => e = .returned (.bool (sruF S x)) ∧ w = w' := by
  obtain ⟨f1, f2, f3, f4, f5, f6⟩ := h.facts
  have HF6 := Lib.hid f6
  have HO := Lib.hid ho
  have hn8 := ho.n8
  clear h ho f6
  by_cases h1 : x < 0 ∨ (S.nd : Int) ≤ x
  · have hr : sruF S x = false := by unfold sruF; rw [if_pos h1]
    rw [hr]
    clear hr
    rcases h1 with h1 | h1
    · go_enter Tryz.func132, Tryz.ntmps132
      go_wp2
      go_ret
      exact ⟨rfl, rfl⟩
    · have h0 : ¬ x < 0 := by omega
      go_enter Tryz.func132, Tryz.ntmps132
      go_wp2
      go_ret
      exact ⟨rfl, rfl⟩
  · obtain ⟨j, rfl⟩ : ∃ j : Nat, x = j := ⟨x.toNat, by omega⟩
    have hj : j < S.nd := by omega
    have hji : ¬ (S.nd : Int) ≤ (j : Int) := by omega
    have fd := HF6.out j (by omega)
    by_cases h2 : S.d j = 53
    · by_cases h3 : j + 1 = S.nd
      · have h3i : ((j : Int) + 1 == (S.nd : Int)) = true := by rw [beq_iff_eq]; omega
        have h3j : ((j : Int) + 1) = (S.nd : Int) := by omega
        rw [h2] at fd
        cases htr : S.tr with
        | true =>
          have hr : sruF S j = true := by unfold sruF; rw [if_neg h1, Int.toNat_natCast, if_pos ⟨h2, h3⟩, htr]; rfl
          rw [hr]
          rw [htr] at f4
          clear hr h3j h1
          go_enter Tryz.func132, Tryz.ntmps132
          go_wp2
          go_ret
          exact ⟨rfl, rfl⟩
        | false =>
          have hr : sruF S j = (decide (0 < j) && decide ((S.d (j - 1) - 48) % 2 ≠ 0)) := by unfold sruF; rw [if_neg h1, Int.toNat_natCast, if_pos ⟨h2, h3⟩, htr]; rfl
          rw [hr]
          rw [htr] at f4
          clear hr h3j h1
          rcases j with _ | i
          · go_enter Tryz.func132, Tryz.ntmps132
            go_wp2
            go_ret
            exact ⟨rfl, rfl⟩
          · have fe := HF6.out i (by omega)
            have hdi := HO.out.dig i (by omega)
            obtain ⟨c, hc⟩ : ∃ c, S.d i = c + 48 := ⟨S.d i - 48, by omega⟩
            rw [hc] at fe hdi
            rw [Nat.add_sub_cancel, hc, Nat.add_sub_cancel]
            have hi1 : ((i + 1 : Nat) : Int) - 1 = i := by omega
            by_cases hp : c % 2 = 0
            · have hpi : ((c : Int) % 2 != 0) = false := by
                have : (c : Int) % 2 = 0 := by omega
                rw [this]; rfl
              have hpd : decide (c % 2 ≠ 0) = false := by simpa using hp
              rw [hpd]
              clear hp hpd
              go_enter Tryz.func132, Tryz.ntmps132
              go_wp2
              go_ret
              exact ⟨by simp, rfl⟩
            · have hpi : ((c : Int) % 2 != 0) = true := by rw [bne_iff_ne]; omega
              have hpd : decide (c % 2 ≠ 0) = true := by simpa using hp
              rw [hpd]
              clear hp hpd
              go_enter Tryz.func132, Tryz.ntmps132
              go_wp2
              go_ret
              exact ⟨by simp, rfl⟩
      · have hr : sruF S j = decide (53 ≤ S.d j) := by unfold sruF; rw [if_neg h1, Int.toNat_natCast, if_neg (fun h => h3 h.2)]
        have h3i : ((j : Int) + 1 == (S.nd : Int)) = false := beq_eq_false_iff_ne.2 (by omega)
        rw [hr, h2]
        rw [h2] at fd
        clear hr h1 h3
        go_enter Tryz.func132, Tryz.ntmps132
        go_wp2
        go_ret
        exact ⟨rfl, rfl⟩
    · have hr : sruF S j = decide (53 ≤ S.d j) := by unfold sruF; rw [if_neg h1, Int.toNat_natCast, if_neg (fun h => h2 h.1)]
      have h2i : (((S.d j : Nat) : Int) == 53) = false := beq_eq_false_iff_ne.2 (by omega)
      rw [hr]
      clear hr h1
      obtain ⟨v, hv⟩ : ∃ v, v = S.d j := ⟨_, rfl⟩
      rw [← hv] at fd h2i ⊢
      clear hv h2
      by_cases h53 : 53 ≤ v
      · rw [decide_eq_true h53]
        go_enter Tryz.func132, Tryz.ntmps132
        go_wp2
        go_ret
        exact ⟨by simp; omega, rfl⟩
      · rw [decide_eq_false h53]
        go_enter Tryz.func132, Tryz.ntmps132
        go_wp2
        go_ret
        exact ⟨by simp; omega, rfl⟩

/-- The whole part's digits. -/
def ri1 (d : Nat → Nat) : Nat → Nat → Int → Int
  | 0, _, n => n
  | m + 1, i, n => ri1 d m (i + 1) (IntKind.u64.wrap (IntKind.u64.wrap (n * 10) + ((d i - 48 : Nat) : Int)))
def ri2 : Nat → Int → Int
  | 0, n => n
  | m + 1, n => ri2 m (IntKind.u64.wrap (n * 10))

/-- How many digits stand ahead of the point, and how many noughts behind them. -/
def Dec.whole (S : Dec) : Nat := min S.dp.toNat S.nd
def Dec.rest (S : Dec) : Nat := S.dp.toNat - S.whole

def riF (S : Dec) : Int :=
  if 20 < S.dp then 18446744073709551615
  else if sruF S S.dp then IntKind.u64.wrap (ri2 S.rest (ri1 S.d S.whole 0 0) + 1) else ri2 S.rest (ri1 S.d S.whole 0 0)

def Ri1 (S : Dec) (m : Nat) (i n : Value) : Prop :=
  ∃ (j : Nat) (x : Int), m = S.whole - j ∧ i = .int .i64 j ∧ n = .int .u64 x ∧ j ≤ S.whole ∧ ri1 S.d (S.whole - j) j x = ri1 S.d S.whole 0 0
def Ri2 (S : Dec) (m : Nat) (i n : Value) : Prop :=
  ∃ (j : Nat) (x : Int), m = S.dp.toNat - j ∧ i = .int .i64 j ∧ n = .int .u64 x ∧ S.whole ≤ j ∧ ri2 (S.dp.toNat - j) x = ri2 S.rest (ri1 S.d S.whole 0 0)

theorem ri_false {S : Dec} {x : Int} (h : ¬ 20 < S.dp) (hb : sruF S S.dp = false) (hx : x = ri2 S.rest (ri1 S.d S.whole 0 0)) : Ending.returned (.int .u64 x) = .returned (.int .u64 (riF S)) := by
  unfold riF
  rw [if_neg h, hb, hx]
  rfl

theorem ri_true {S : Dec} {x : Int} (h : ¬ 20 < S.dp) (hb : sruF S S.dp = true) (hx : x = ri2 S.rest (ri1 S.d S.whole 0 0)) : Ending.returned (.int .u64 (IntKind.u64.wrap (x + 1))) = .returned (.int .u64 (riF S)) := by
  unfold riF
  rw [if_neg h, hb, hx]
  rfl

set_option maxRecDepth 1000000 in
set_option maxHeartbeats 8000000 in
theorem roundedInt (g : Nat) (S : Dec) (w : World) (h : DecAt g S w) (ho : DecOk S) : Calls Tryz.prog 124 #[.pointer (some ⟨g, 0, none⟩)] w fun e w' => e = .returned (.int .u64 (riF S)) ∧ w = w' := by
  obtain ⟨f1, f2, f3, f4, f5, f6⟩ := h.facts
  have HF6 := Lib.hid f6
  have HO := Lib.hid ho
  have HSR := Lib.hid (sru g S S.dp w h ho)
  have hn8 := ho.n8
  clear h ho f6
  by_cases h20 : 20 < S.dp
  · have hr : riF S = 18446744073709551615 := by unfold riF; rw [if_pos h20]
    rw [hr]
    clear hr
    go_enter Tryz.func124, Tryz.ntmps124
    go_wp2
    go_ret
    exact ⟨rfl, rfl⟩
  · have hwd : S.whole = min S.dp.toNat S.nd := rfl
    obtain ⟨p, hp⟩ : ∃ p, p = S.dp := ⟨_, rfl⟩
    rw [← hp] at f2 h20 HSR hwd
    have hwn : S.whole ≤ S.nd := by omega
    have HWD := Lib.hid hwd
    have HP := Lib.hid hp
    clear hwd hp
    go_enter Tryz.func124, Tryz.ntmps124
    go_wp2
    go_loopg [3, 4] S.whole (fun m i n wx => Aside (Ri1 S m i n ∧ w = wx))
    case atStart => exact ⟨⟨0, 0, by omega, rfl, rfl, Nat.zero_le _, by rw [Nat.sub_zero]⟩, rfl⟩
    case round =>
      obtain ⟨⟨j, x, hm, rfl, rfl, hj, hx⟩, rfl⟩ := hrel.out
      clear hrel
      have HM := Lib.hid hm
      have HX := Lib.hid hx
      clear hm hx
      by_cases hjw : j < S.whole
      · have hjp : (j : Int) < p := by have := HWD.out; omega
        have hjn : j < S.nd := by omega
        have fd := HF6.out j (by omega)
        have hdj := HO.out.dig j hjn
        obtain ⟨c, hc⟩ : ∃ c, S.d j = c + 48 := ⟨S.d j - 48, by omega⟩
        have hx2 : ri1 S.d (S.whole - (j + 1)) (j + 1) (IntKind.u64.wrap (IntKind.u64.wrap (x * 10) + (c : Nat))) = ri1 S.d S.whole 0 0 := by
          rw [← HX.out]
          have : S.whole - j = (S.whole - (j + 1)) + 1 := by omega
          rw [this, ri1, hc, Nat.add_sub_cancel]
        have HX2 := Lib.hid hx2
        rw [hc] at fd hdj
        clear hx2 hc
        as_aux_lemma =>
        go_wp2
        go_roundg (S.whole - (j + 1))
        case measure => have := HM.out; omega
        case rel => exact ⟨⟨j + 1, _, rfl, by simp, rfl, by omega, HX2.out⟩, rfl⟩
      · have hjw2 : j = S.whole := by omega
        have hst : ri2 (S.dp.toNat - j) x = ri2 S.rest (ri1 S.d S.whole 0 0) := by
          rw [← HX.out, hjw2, Nat.sub_self, ri1]
          rfl
        have HST := Lib.hid hst
        have hjd : ¬ (j : Int) < p ∨ ((j : Int) < p ∧ ¬ j < S.nd) := by have := HWD.out; omega
        have HJ := Lib.hid hjw2
        have hwj : S.whole ≤ j := by omega
        clear hst hjw hjw2
        obtain ⟨bq, hbq⟩ : ∃ bq, bq = sruF S p := ⟨_, rfl⟩
        have HBQ := Lib.hid hbq
        have hsr := HSR.out
        rw [← hbq] at hsr
        have HSR2 := Lib.hid hsr
        have H20 := Lib.hid h20
        clear hbq hsr
        rcases hjd with hjd | ⟨hjd, hjd2⟩
        all_goals
          go_wp2
          (try clear hjd2)
          clear hjd
          go_loopg [3, 4] (S.dp.toNat - j) (fun m i n wx => Aside (Ri2 S m i n ∧ w = wx))
          case atStart => exact ⟨⟨j, x, rfl, rfl, rfl, hwj, HST.out⟩, rfl⟩
          case round =>
            obtain ⟨⟨j2, x2, hm2, rfl, rfl, hj2, hx2⟩, rfl⟩ := hrel.out
            clear hrel
            have HM2 := Lib.hid hm2
            have HX2 := Lib.hid hx2
            clear hm2 hx2
            by_cases hjp : (j2 : Int) < p
            · have hx3 : ri2 (S.dp.toNat - (j2 + 1)) (IntKind.u64.wrap (x2 * 10)) = ri2 S.rest (ri1 S.d S.whole 0 0) := by
                rw [← HX2.out]
                have h2 : S.dp.toNat - j2 = (S.dp.toNat - (j2 + 1)) + 1 := by have := HP.out; omega
                rw [h2, ri2]
              have HX3 := Lib.hid hx3
              have hlt : j2 < S.dp.toNat := by have := HP.out; omega
              have HLT := Lib.hid hlt
              clear hx3 hlt
              as_aux_lemma =>
              go_wp2
              go_roundg (S.dp.toNat - (j2 + 1))
              case measure => have := HM2.out; have := HLT.out; omega
              case rel => exact ⟨⟨j2 + 1, _, rfl, by simp, rfl, by have := HLT.out; omega, HX3.out⟩, rfl⟩
            · have hx3 : x2 = ri2 S.rest (ri1 S.d S.whole 0 0) := by
                rw [← HX2.out]
                have h2 : S.dp.toNat - j2 = 0 := by have := HP.out; omega
                rw [h2, ri2]
              have HX3 := Lib.hid hx3
              clear hx3
              cases bq
              · as_aux_lemma =>
                go_wp2_with (first | (go_at_call 132; refine (HSR2.out).mono ?_; rintro e w2 ⟨rfl, rfl⟩))
                go_ret
                exact ⟨ri_false (by rw [← HP.out]; have := H20.out; omega) (by rw [← HP.out]; exact HBQ.out.symm) HX3.out, rfl⟩
              · as_aux_lemma =>
                go_wp2_with (first | (go_at_call 132; refine (HSR2.out).mono ?_; rintro e w2 ⟨rfl, rfl⟩))
                go_ret
                exact ⟨ri_true (by rw [← HP.out]; have := H20.out; omega) (by rw [← HP.out]; exact HBQ.out.symm) HX3.out, rfl⟩

end Go.Proofs.YtdabllkphibfmaaGreatDoor

/- floatBits: its two loops give one answer. -/
namespace Go.Proofs.YtdabllkphibfmaaGreatDoor
open Go Go.RowKit
set_option linter.unusedSimpArgs false
set_option linter.unusedVariables false

/-- What floatBits reads besides its decimal. -/
structure Fb (D : Nat → Nat) (C : Nat → List UInt8) (P : Nat → Nat) (g : Nat) (w : World) (a : Addr) (c : Nat) (b : Addr) (cb : Nat) : Prop where
  lc : Lc D C g w a c
  sl : w.cell? ⟨13, 0, none⟩ = some (.slice (some b) 9 cb)
  bg : ∀ i, (b.add i).block < g
  pw : ∀ i, i < 9 → w.cell? (b.add i) = some (.int .i64 (P i))
  pr : ∀ i, i < 9 → 1 ≤ P i ∧ P i ≤ 27
  i0 : w.cell? ⟨8, 0, none⟩ = some (.int .u64 52)
  i1 : w.cell? ⟨8, 1, none⟩ = some (.int .u64 11)
  i2 : w.cell? ⟨8, 2, none⟩ = some (.int .i64 (-1023))

theorem Fb.below {D : Nat → Nat} {C : Nat → List UInt8} {P : Nat → Nat} {g : Nat} {w w' : World} {a : Addr} {c : Nat} {b : Addr} {cb : Nat} (h : Fb D C P g w a c b cb) (hb : Below g w w') : Fb D C P g w' a c b cb := by
  have hg := h.lc.g16
  refine ⟨h.lc.below hb, (hb.cell (p := ⟨13, 0, none⟩) (show 13 < g by omega)).trans h.sl, h.bg, fun i hi => (hb.cell (p := b.add i) (h.bg i)).trans (h.pw i hi), h.pr, (hb.cell (p := ⟨8, 0, none⟩) (show 8 < g by omega)).trans h.i0, (hb.cell (p := ⟨8, 1, none⟩) (show 8 < g by omega)).trans h.i1, (hb.cell (p := ⟨8, 2, none⟩) (show 8 < g by omega)).trans h.i2⟩

def stepN (P : Nat → Nat) (p : Nat) : Nat := if 9 ≤ p then 27 else P p

theorem stepN_ok {P : Nat → Nat} (h : ∀ i, i < 9 → 1 ≤ P i ∧ P i ≤ 27) (p : Nat) : 1 ≤ stepN P p ∧ stepN P p ≤ 27 := by
  unfold stepN
  split
  · omega
  · exact h p (by omega)

def fb1 (P : Nat → Nat) : Nat → Dec → Int → Dec × Int
  | 0, S, e => (S, e)
  | f + 1, S, e => if 0 < S.dp then fb1 P f (rsF S (stepN P S.dp.toNat)) (e + stepN P S.dp.toNat) else (S, e)

def fb2go (S : Dec) : Bool := decide (S.dp < 0) || (decide (S.dp = 0) && decide (S.d 0 < 53))

def fb2 (D : Nat → Nat) (C : Nat → List UInt8) (P : Nat → Nat) : Nat → Dec → Int → Dec × Int
  | 0, S, e => (S, e)
  | f + 1, S, e => if fb2go S then fb2 D C P f (lsF S (stepN P (-S.dp).toNat) (D (stepN P (-S.dp).toNat)) (C (stepN P (-S.dp).toNat))) (e - stepN P (-S.dp).toNat) else (S, e)

def mu1 (S : Dec) : Nat := S.dp.toNat * 100 + S.d 0
def mu2 (S : Dec) : Nat := (1 - S.dp).toNat * 100 + (57 - S.d 0)

theorem shR_one {S : Dec} {k : Nat} (h : k ≤ 60) : shR S k = rsF S k := by rw [shR.eq_def, if_neg (by omega)]
theorem shL_one {D : Nat → Nat} {C : Nat → List UInt8} {S : Dec} {k : Nat} (h : k ≤ 60) : shL D C S k = lsF S k (D k) (C k) := by rw [shL.eq_def, if_neg (by omega)]

theorem mu1_lt {S : Dec} {k : Nat} (h : DecOk S) (hk : 1 ≤ k ∧ k ≤ 60) (hp : 0 < S.dp) : mu1 (rsF S k) < mu1 S ∧ -900 ≤ (rsF S k).dp := by
  obtain ⟨h1, h2, h3⟩ := rsF_ok h hk
  have a := h.dig 0 (by have := h.n1; omega)
  have b := h1.dig 0 (by have := h1.n1; omega)
  unfold mu1
  refine ⟨?_, by omega⟩
  rcases h3 with h3 | ⟨h3, h4⟩ <;> omega

theorem mu2_lt {S : Dec} {k D : Nat} {l : List UInt8} (h : DecOk S) (hk : 1 ≤ k ∧ k ≤ 60) (hc : Cheat k D l) (hp : S.dp ≤ 0) : mu2 (lsF S k D l) < mu2 S ∧ (lsF S k D l).dp ≤ 19 ∧ S.dp ≤ (lsF S k D l).dp := by
  obtain ⟨h1, h2, h3⟩ := lsF_ok h hk hc
  have a := h.dig 0 (by have := h.n1; omega)
  have b := h1.dig 0 (by have := h1.n1; omega)
  unfold mu2
  refine ⟨?_, by omega, ?_⟩
  · rcases h3 with h3 | ⟨h3, h4⟩ <;> omega
  · rcases h3 with h3 | ⟨h3, h4⟩ <;> omega

def F1 (P : Nat → Nat) (g F : Nat) (S : Dec) (w : World) (m : Nat) (ev : Value) (wx : World) : Prop :=
  ∃ (S' : Dec) (e : Int), mu1 S' ≤ m ∧ m ≤ F ∧ ev = .int .i64 e ∧ 0 ≤ e ∧ e ≤ 27 * ((F : Int) - m) ∧ fb1 P m S' e = fb1 P F S 0 ∧ DecOk S' ∧ -900 ≤ S'.dp ∧ S'.dp ≤ 310 ∧ DecAt g S' wx ∧ Below g w wx

def F2 (D : Nat → Nat) (C : Nat → List UInt8) (P : Nat → Nat) (g F : Nat) (S : Dec) (e0 : Int) (w : World) (m : Nat) (ev : Value) (wx : World) : Prop :=
  ∃ (S' : Dec) (e : Int), mu2 S' ≤ m ∧ m ≤ F ∧ ev = .int .i64 e ∧ e ≤ e0 ∧ e0 - 27 * ((F : Int) - m) ≤ e ∧ fb2 D C P m S' e = fb2 D C P F S e0 ∧ DecOk S' ∧ -900 ≤ S'.dp ∧ S'.dp ≤ 19 ∧ DecAt g S' wx ∧ Below g w wx

end Go.Proofs.YtdabllkphibfmaaGreatDoor

/- floatBits, walked: one answer. -/
namespace Go.Proofs.YtdabllkphibfmaaGreatDoor
open Go Go.RowKit
set_option linter.unusedSimpArgs false
set_option linter.unusedVariables false

/-- As Q; by a goto: what stands at its label is walked on from there, without a further goto. -/
def Exit.fwd (P : Program) (c : Code) (Q : Exit → Act → World → Prop) : Exit → Act → World → Prop
  | .goto l, a, w => ∃ rest, findLabel c l = some rest ∧ rest.wp P (Exit.noGoto Q) a w
  | e, a, w => Q e a w

/-- A scope whose jumps go forth: what stands at the label is walked once more at each jump. -/
theorem wp_scope_fwd {P : Program} {a : Act} {w : World} {Q : Exit → Act → World → Prop} {c : Code} (first : c.wp P (Exit.fwd P c Q) a w) : (Code.scope c).wp P Q a w := by
  intro b k cs
  obtain ⟨e, a₁, w₁, hq, harr⟩ := first b (.inScope c :: k) cs
  cases e with
  | normal => exact ⟨.normal, a₁, w₁, hq, .head step_scope (Steps.trans harr (.one step_inScope))⟩
  | exit id => exact ⟨.exit id, a₁, w₁, hq, fun k' hk => .head step_scope (harr k' (by simp [exitTo, hk]))⟩
  | goto l' =>
    obtain ⟨rest, hf, hJ⟩ := hq
    have hg : gotoIn l' (.inScope c :: k) = some (.code rest :: .inScope c :: k) := by simp [gotoIn, hf]
    obtain ⟨e, a₂, w₂, hq₂, harr₂⟩ := hJ b (.inScope c :: k) cs
    have hst := harr _ hg
    cases e with
    | normal => exact ⟨.normal, a₂, w₂, hq₂, .head step_scope (Steps.trans hst (Steps.trans harr₂ (.one step_inScope)))⟩
    | exit id => exact ⟨.exit id, a₂, w₂, hq₂, fun k' hk => .head step_scope (Steps.trans hst (harr₂ k' (by simp [exitTo, hk])))⟩
    | goto l'' => exact hq₂.elim
    | ret => exact ⟨_, a₂, w₂, hq₂, .of_steps (.head step_scope hst) harr₂⟩
    | panic ch => exact ⟨_, a₂, w₂, hq₂, .of_steps (.head step_scope hst) harr₂⟩
    | outgrown => exact ⟨_, a₂, w₂, hq₂, .of_steps (.head step_scope hst) harr₂⟩
  | ret => exact ⟨_, a₁, w₁, hq, .of_steps (.one step_scope) harr⟩
  | panic ch => exact ⟨_, a₁, w₁, hq, .of_steps (.one step_scope) harr⟩
  | outgrown => exact ⟨_, a₁, w₁, hq, .of_steps (.one step_scope) harr⟩

theorem shR_ok (k : Nat) : ∀ S : Dec, DecOk S → 1 ≤ k → DecOk (shR S k) ∧ S.dp - 15 * k - 864 ≤ (shR S k).dp ∧ (shR S k).dp ≤ S.dp := by
  induction k using Nat.strongRecOn with
  | _ k ih =>
    intro S h hk
    rw [shR.eq_def]
    split
    · obtain ⟨a, b, c⟩ := rsF_ok h (k := 60) (by omega)
      obtain ⟨x, y, z⟩ := ih (k - 60) (by omega) _ a (by omega)
      refine ⟨x, ?_, ?_⟩ <;> rcases c with c | ⟨c, _⟩ <;> omega
    · obtain ⟨a, b, c⟩ := rsF_ok h (k := k) (by omega)
      refine ⟨a, ?_, ?_⟩ <;> rcases c with c | ⟨c, _⟩ <;> omega

theorem wrap_range (x : Int) : ∃ m : Nat, IntKind.u64.wrap x = m ∧ m < 18446744073709551616 := by
  have h : 0 ≤ IntKind.u64.wrap x ∧ IntKind.u64.wrap x < 18446744073709551616 := by
    rw [IntKind.wrap_u64]
    omega
  exact ⟨(IntKind.u64.wrap x).toNat, by omega, by omega⟩

theorem ri1_range (d : Nat → Nat) : ∀ (m i : Nat) (n : Int), (∃ x : Nat, n = x ∧ x < 18446744073709551616) → ∃ x : Nat, ri1 d m i n = x ∧ x < 18446744073709551616
  | 0, _, _, h => h
  | m + 1, i, n, _ => ri1_range d m (i + 1) _ (wrap_range _)

theorem ri2_range : ∀ (m : Nat) (n : Int), (∃ x : Nat, n = x ∧ x < 18446744073709551616) → ∃ x : Nat, ri2 m n = x ∧ x < 18446744073709551616
  | 0, _, h => h
  | m + 1, n, _ => ri2_range m _ (wrap_range _)

theorem riF_range (S : Dec) : ∃ x : Nat, riF S = x ∧ x < 18446744073709551616 := by
  unfold riF
  split
  · exact ⟨18446744073709551615, rfl, by decide⟩
  · split
    · exact wrap_range _
    · exact ri2_range _ _ (ri1_range _ _ _ _ ⟨0, rfl, by decide⟩)

def fbBits (M e : Int) (neg : Bool) : Int :=
  if neg then bits .or .u64 (bits .or .u64 (bits .and .u64 M 4503599627370495) (IntKind.u64.wrap (IntKind.u64.wrap (bits .and .i64 (e + 1023) 2047) * 4503599627370496))) 9223372036854775808
  else bits .or .u64 (bits .and .u64 M 4503599627370495) (IntKind.u64.wrap (IntKind.u64.wrap (bits .and .i64 (e + 1023) 2047) * 4503599627370496))

def tl3 (M e : Int) (neg : Bool) : Int × Bool :=
  if M = 9007199254740992 then (if 1024 ≤ e + 1 then (fbBits 0 1024 neg, true) else (fbBits 4503599627370496 (e + 1) neg, false))
  else if (bits .and .u64 M 4503599627370496 == 0) = true then (fbBits M (-1023) neg, false) else (fbBits M e neg, false)

def tl2 (D : Nat → Nat) (C : Nat → List UInt8) (S : Dec) (e : Int) : Int × Bool :=
  if 1024 ≤ e then (fbBits 0 1024 S.neg, true) else tl3 (riF (lsF S 53 (D 53) (C 53))) e (lsF S 53 (D 53) (C 53)).neg

def tlF (D : Nat → Nat) (C : Nat → List UInt8) (S : Dec) (e : Int) : Int × Bool :=
  if e - 1 < -1022 then tl2 D C (shR S (-1021 - e).toNat) (-1022) else tl2 D C S (e - 1)

def outF (D : Nat → Nat) (C : Nat → List UInt8) (P : Nat → Nat) (S : Dec) : Int × Bool :=
  tlF D C (fb2 D C P (mu2 (fb1 P (mu1 S) S 0).1) (fb1 P (mu1 S) S 0).1 (fb1 P (mu1 S) S 0).2).1 (fb2 D C P (mu2 (fb1 P (mu1 S) S 0).1) (fb1 P (mu1 S) S 0).1 (fb1 P (mu1 S) S 0).2).2

theorem outF_eq {D : Nat → Nat} {C : Nat → List UInt8} {P : Nat → Nat} {S S' T : Dec} {e e2 : Int} (h1 : fb1 P (mu1 S) S 0 = (S', e)) (h2 : fb2 D C P (mu2 S') S' e = (T, e2)) : outF D C P S = tlF D C T e2 := by
  unfold outF
  rw [h1]
  show tlF D C (fb2 D C P (mu2 S') S' e).1 (fb2 D C P (mu2 S') S' e).2 = _
  rw [h2]

section
variable {D : Nat → Nat} {C : Nat → List UInt8} {P : Nat → Nat} {S : Dec} {M e : Int} {neg : Bool} {r : Int × Bool}
theorem tl3_zt (h : r = tl3 M e neg) (hm : ¬ M = 9007199254740992) (hb : (bits .and .u64 M 4503599627370496 == 0) = true) (hn : neg = true) : r = (bits .or .u64 (bits .or .u64 (bits .and .u64 M 4503599627370495) (IntKind.u64.wrap (IntKind.u64.wrap (bits .and .i64 0 2047) * 4503599627370496))) 9223372036854775808, false) := by
  rw [h, tl3, if_neg hm, if_pos hb, hn]; rfl
theorem tl3_zf (h : r = tl3 M e neg) (hm : ¬ M = 9007199254740992) (hb : (bits .and .u64 M 4503599627370496 == 0) = true) (hn : neg = false) : r = (bits .or .u64 (bits .and .u64 M 4503599627370495) (IntKind.u64.wrap (IntKind.u64.wrap (bits .and .i64 0 2047) * 4503599627370496)), false) := by
  rw [h, tl3, if_neg hm, if_pos hb, hn]; rfl
theorem tl3_nt (h : r = tl3 M e neg) (hm : ¬ M = 9007199254740992) (hb : (bits .and .u64 M 4503599627370496 == 0) = false) (hn : neg = true) : r = (bits .or .u64 (bits .or .u64 (bits .and .u64 M 4503599627370495) (IntKind.u64.wrap (IntKind.u64.wrap (bits .and .i64 (e + 1023) 2047) * 4503599627370496))) 9223372036854775808, false) := by
  rw [h, tl3, if_neg hm, if_neg (by rw [hb]; decide), hn]; rfl
theorem tl3_nf (h : r = tl3 M e neg) (hm : ¬ M = 9007199254740992) (hb : (bits .and .u64 M 4503599627370496 == 0) = false) (hn : neg = false) : r = (bits .or .u64 (bits .and .u64 M 4503599627370495) (IntKind.u64.wrap (IntKind.u64.wrap (bits .and .i64 (e + 1023) 2047) * 4503599627370496)), false) := by
  rw [h, tl3, if_neg hm, if_neg (by rw [hb]; decide), hn]; rfl
theorem fb_ot (h : r = (fbBits 0 1024 neg, true)) (hn : neg = true) : r = (bits .or .u64 (bits .or .u64 (bits .and .u64 0 4503599627370495) (IntKind.u64.wrap (IntKind.u64.wrap (bits .and .i64 2047 2047) * 4503599627370496))) 9223372036854775808, true) := by
  rw [h, hn]; rfl
theorem fb_of (h : r = (fbBits 0 1024 neg, true)) (hn : neg = false) : r = (bits .or .u64 (bits .and .u64 0 4503599627370495) (IntKind.u64.wrap (IntKind.u64.wrap (bits .and .i64 2047 2047) * 4503599627370496)), true) := by
  rw [h, hn]; rfl
theorem fb_mt (h : r = (fbBits M e neg, false)) (hn : neg = true) : r = (bits .or .u64 (bits .or .u64 (bits .and .u64 M 4503599627370495) (IntKind.u64.wrap (IntKind.u64.wrap (bits .and .i64 (e + 1023) 2047) * 4503599627370496))) 9223372036854775808, false) := by
  rw [h, hn]; rfl
theorem fb_mf (h : r = (fbBits M e neg, false)) (hn : neg = false) : r = (bits .or .u64 (bits .and .u64 M 4503599627370495) (IntKind.u64.wrap (IntKind.u64.wrap (bits .and .i64 (e + 1023) 2047) * 4503599627370496)), false) := by
  rw [h, hn]; rfl
end

def FbPost (g : Nat) (b : Int) (o : Bool) (w : World) (e : Ending) (w' : World) : Prop := e = .returned (.tuple #[.int .u64 b, .bool o]) ∧ Below g w w'

set_option maxRecDepth 1000000 in
set_option maxHeartbeats 8000000 in
theorem floatBits_mid {D : Nat → Nat} {C : Nat → List UInt8} {P : Nat → Nat} {g : Nat} {a : Addr} {c : Nat} {b : Addr} {cb : Nat} (S : Dec) (ho : DecOk S) (hdp : -330 ≤ S.dp ∧ S.dp ≤ 310) (w : World) (h : DecAt g S w) (hf : Fb D C P g w a c b cb) :
    Calls Tryz.prog 96 #[.pointer (some ⟨g, 0, none⟩), .pointer (some ⟨8, 0, none⟩)] w (FbPost g (outF D C P S).1 (outF D C P S).2 w) := by
  have H := Lib.hid h
  have HO := Lib.hid ho
  have HF := Lib.hid hf
  have f1 := h.facts.nd
  have f2 := h.facts.dp
  have hnd : ((S.nd : Int) == 0) = false := beq_eq_false_iff_ne.2 (by have := ho.n1; omega)
  have hd1 : ¬ (310 : Int) < S.dp := by omega
  have hd2 : ¬ S.dp < (-330 : Int) := by omega
  clear h ho hf
  go_enter Tryz.func96, Tryz.ntmps96
  go_wp2
  refine wp_scope_fwd ?_
  generalize hQQ : Exit.fwd Tryz.prog _ _ = QQ
  have HQ := Lib.hid hQQ
  clear hQQ
  go_wp2
  go_loopg [6, 8] (mu1 S) (fun m ev nv wx => Aside (F1 P g (mu1 S) S w m ev wx))
  case atStart => exact ⟨S, 0, Nat.le_refl _, Nat.le_refl _, rfl, by omega, by omega, rfl, HO.out, by omega, by omega, H.out, Below.refl _ _⟩
  case round =>
    obtain ⟨S', e, hmu, hmF, rfl, he0, he1, hfb, hok, hp1, hp2, hD, hb⟩ := hrel.out
    clear hrel
    have hmu1 : mu1 S < 40000 := by
      have := (HO.out.dig 0 (by have := HO.out.n1; omega))
      unfold mu1
      omega
    have HMU := Lib.hid hmu
    have HMF := Lib.hid hmF
    have HE1 := Lib.hid he1
    have HFB := Lib.hid hfb
    have HOK := Lib.hid hok
    have HD := Lib.hid hD
    have HB := Lib.hid hb
    have g2 := hD.facts.dp
    have hF2 := HF.out.below hb
    have HF2 := Lib.hid hF2
    have heb : e ≤ 1080000 := by omega
    clear hmu hmF he1 hfb hok hD hb hmu1
    by_cases hpos : 0 < S'.dp
    · obtain ⟨p, hp⟩ : ∃ p : Nat, S'.dp = p := ⟨S'.dp.toNat, by omega⟩
      have HPP := Lib.hid hp
      have hpos' := hpos
      rw [hp] at g2 hpos
      have hs1 := HF2.out.sl
      have hst := stepN_ok HF2.out.pr p
      obtain ⟨n, hn⟩ : ∃ n, n = stepN P p := ⟨_, rfl⟩
      rw [← hn] at hst
      have hsh : ∀ q, Calls Tryz.prog 123 #[.pointer (some ⟨g, 0, none⟩), .int .i64 (-(n : Int))] (wr.drewN q) (DPost g (rsF S' n) (wr.drewN q)) := fun q => by
        have := shiftDown (k := n) (HD.out.drewN q) HOK.out (by omega) (by have := HPP.out; omega)
        rwa [shR_one (by omega)] at this
      have HSH := Lib.hid hsh
      have hml := mu1_lt HOK.out (k := n) (by omega) (by have := HPP.out; omega)
      have HML := Lib.hid hml
      have hdle : (rsF S' n).dp ≤ 310 := by
        have := (rsF_ok HOK.out (k := n) (by omega)).2.2
        have := HPP.out
        omega
      have HOK2 := Lib.hid (rsF_ok HOK.out (k := n) (by omega)).1
      have hfu : fb1 P (gk - 1) (rsF S' n) (e + n) = fb1 P (mu1 S) S 0 := by
        have hm1 := HMU.out
        have : 1 ≤ mu1 S' := by unfold mu1; have := HPP.out; omega
        obtain ⟨m', rfl⟩ : ∃ m', gk = m' + 1 := ⟨gk - 1, by omega⟩
        rw [← HFB.out]
        show _ = if 0 < S'.dp then _ else _
        rw [if_pos (by have := HPP.out; omega), HPP.out, Int.toNat_natCast, ← hn]
        rfl
      have HFU := Lib.hid hfu
      have HRel : Hid (∀ w2, DecAt g (rsF S' n) w2 → (∃ q, Below g (wr.drewN q) w2) → F1 P g (mu1 S) S w (gk - 1) (.int .i64 (e + n)) w2) := Lib.hid (fun w2 hD2 ⟨q, hb2⟩ => by
        have hm1 := HMU.out
        have hm2 := HMF.out
        have hm3 := HML.out.1
        have hm4 := HE1.out
        exact ⟨rsF S' n, e + n, by omega, by omega, rfl, by omega, by omega, HFU.out, HOK2.out, HML.out.2, hdle, hD2, (below_nn HB.out q).trans hb2⟩)
      have HN := Lib.hid hn
      have hmm : gk - 1 < gk := by
        have hm1 := HMU.out
        have : 1 ≤ mu1 S' := by unfold mu1; have := HPP.out; omega
        omega
      have HMM := Lib.hid hmm
      clear hsh hml hdle hp1 hfu hmm hn
      by_cases h9 : 9 ≤ p
      · have e1 : n = 27 := by rw [HN.out]; unfold stepN; rw [if_pos h9]
        subst e1
        have h9i : (9 : Int) ≤ (p : Int) := by omega
        clear hst
        as_aux_lemma =>
        go_wp2
        go_quiet (fail)
        go_wp2_with (first | (go_at_call 123; refine (HSH.out _).mono ?_; rintro e w2 ⟨rfl, hD2, hb2⟩; have HD2 := Lib.hid hD2; have HB2 := Lib.hid hb2; clear hD2 hb2))
        go_roundg (gk - 1)
        case measure => exact HMM.out
        case rel => exact HRel.out _ HD2.out ⟨_, HB2.out⟩
      · have hpw := HF2.out.pw p (by omega)
        have e1 : stepN P p = P p := by unfold stepN; rw [if_neg h9]
        rw [← e1, ← HN.out] at hpw
        have h9i : (p : Int) < 9 := by omega
        have h9j : ¬ (9 : Int) ≤ p := by omega
        clear e1
        as_aux_lemma =>
        go_wp2
        go_quiet (fail)
        go_upto_region 15 with fail
        go_quiet (fail)
        go_wp2_with (first | (go_at_call 123; refine (HSH.out _).mono ?_; rintro e w2 ⟨rfl, hD2, hb2⟩; have HD2 := Lib.hid hD2; have HB2 := Lib.hid hb2; clear hD2 hb2))
        go_roundg (gk - 1)
        case measure => exact HMM.out
        case rel => exact HRel.out _ HD2.out ⟨_, HB2.out⟩
    · have hr1 : fb1 P (mu1 S) S 0 = (S', e) := by
        rw [← HFB.out]
        rcases gk with _ | m
        · rfl
        · show (if 0 < S'.dp then _ else _) = _
          rw [if_neg hpos]
      have HR1 := Lib.hid hr1
      have hdle : S'.dp ≤ 0 := by omega
      have hmu2 : mu2 S' < 100000 := by
        unfold mu2
        omega
      clear hr1 hpos hp2
      obtain ⟨S1, hS1⟩ : ∃ S1, S1 = S' := ⟨_, rfl⟩
      have HS1 := Lib.hid hS1
      clear hS1
      obtain ⟨wa, hwa⟩ : ∃ wa, wa = wr := ⟨_, rfl⟩
      subst hwa
      go_wp2
      go_loopg [6, 9] (mu2 S') (fun m ev nv wx => Aside (F2 D C P g (mu2 S') S' e wa m ev wx))
      case atStart => exact ⟨S', e, Nat.le_refl _, Nat.le_refl _, rfl, by omega, by omega, rfl, HOK.out, by omega, by omega, HD.out, Below.refl _ _⟩
      case round =>
        obtain ⟨T, e2, hmu, hmF, rfl, he1, he2, hfb, hok, hq1, hq2, hD, hb⟩ := hrel.out
        clear hrel
        have HMU2 := Lib.hid hmu
        have HMF2 := Lib.hid hmF
        have HE2 := Lib.hid he2
        have HE1b := Lib.hid he1
        have HFB2 := Lib.hid hfb
        have HOK2 := Lib.hid hok
        have HD2 := Lib.hid hD
        have HB2 := Lib.hid hb
        have HMU2B := Lib.hid hmu2
        have gdp := hD.facts.dp
        have gd0 := hD.facts.dig 0 (by have := hok.n1; have := hok.n8; omega)
        have hd0 := hok.dig 0 (by have := hok.n1; omega)
        have hF2 := HF2.out.below hb
        have HF3 := Lib.hid hF2
        have heb1 : -3000000 ≤ e2 := by omega
        have heb2 : e2 ≤ 1080000 := by omega
        have hs1 := hF2.sl
        clear hmu hmF he1 he2 hfb hok hD hb hmu2 hF2
        by_cases hgo : fb2go T = true
        · obtain ⟨p, hp⟩ : ∃ p : Nat, T.dp = -(p : Int) := by
            refine ⟨(-T.dp).toNat, ?_⟩
            have : T.dp ≤ 0 := by
              unfold fb2go at hgo
              simp only [Bool.or_eq_true, Bool.and_eq_true, decide_eq_true_eq] at hgo
              omega
            omega
          have HPP := Lib.hid hp
          have hpv : (-T.dp).toNat = p := by rw [hp]; omega
          have hst := stepN_ok HF3.out.pr p
          obtain ⟨n, hn⟩ : ∃ n, n = stepN P p := ⟨_, rfl⟩
          rw [← hn] at hst
          have hlc := HF3.out.lc
          have hch := (hlc.ok n (by omega) (by omega)).1
          have hsh : ∀ q, Calls Tryz.prog 123 #[.pointer (some ⟨g, 0, none⟩), .int .i64 n] (wr.drewN q) (DPost g (lsF T n (D n) (C n)) (wr.drewN q)) := fun q => by
            have := shiftUp (k := n) (HD2.out.drewN q) HOK2.out (by omega) (by omega) (hlc.below (below_nn (Below.refl _ _) q))
            rwa [shL_one (by omega)] at this
          have HSH2 := Lib.hid hsh
          have hml := mu2_lt HOK2.out (k := n) (by omega) hch (by omega)
          have HOK3 := Lib.hid (lsF_ok HOK2.out (k := n) (by omega) hch).1
          have hm1 := HMU2.out
          have hmu1 : 1 ≤ mu2 T := by unfold mu2; omega
          have hfu : fb2 D C P (gk - 1) (lsF T n (D n) (C n)) (e2 - n) = fb2 D C P (mu2 S') S' e := by
            obtain ⟨m', rfl⟩ : ∃ m', gk = m' + 1 := ⟨gk - 1, by omega⟩
            rw [← HFB2.out]
            show _ = if fb2go T then _ else _
            rw [if_pos hgo, hpv, ← hn]
            rfl
          have HFU := Lib.hid hfu
          have HML := Lib.hid hml
          have HRel2 : Hid (∀ w2, DecAt g (lsF T n (D n) (C n)) w2 → (∃ q, Below g (wr.drewN q) w2) → F2 D C P g (mu2 S') S' e wa (gk - 1) (.int .i64 (e2 - n)) w2) := Lib.hid (fun w2 hD2 ⟨q, hb2⟩ => by
            have hm2 := HMF2.out
            have hm3 := HML.out.1
            have hm4 := HE2.out
            have hm6 := HE1b.out
            have hm5 := HML.out.2.2
            exact ⟨lsF T n (D n) (C n), e2 - n, by omega, by omega, rfl, by omega, by omega, HFU.out, HOK3.out, by omega, HML.out.2.1, hD2, (below_nn HB2.out q).trans hb2⟩)
          have HN2 := Lib.hid hn
          have hmm : gk - 1 < gk := by omega
          have HMM2 := Lib.hid hmm
          have HPP2 := Lib.hid hp
          rw [hp] at gdp
          clear hsh hfu hml hm1 hmu1 hn hmm hpv hlc hch
          by_cases h9 : 9 ≤ p
          · have e1 : n = 27 := by rw [HN2.out]; unfold stepN; rw [if_pos h9]
            subst e1
            have h9i : (9 : Int) ≤ (p : Int) := by omega
            have hneg : -(p : Int) < 0 := by omega
            have hpb : p ≤ 900 := by omega
            clear hst hgo hp
            as_aux_lemma =>
            go_wp2
            go_quiet (fail)
            go_wp2_with (first | (go_at_call 123; refine (HSH2.out _).mono ?_; rintro e w2 ⟨rfl, hD3, hb3⟩; have HD3 := Lib.hid hD3; have HB3 := Lib.hid hb3; clear hD3 hb3))
            go_roundg (gk - 1)
            case measure => exact HMM2.out
            case rel => exact HRel2.out _ HD3.out ⟨_, HB3.out⟩
          · have hpw := HF3.out.pw p (by omega)
            have e1 : stepN P p = P p := by unfold stepN; rw [if_neg h9]
            rw [← e1, ← HN2.out] at hpw
            have h9j : ¬ (9 : Int) ≤ p := by omega
            by_cases hp0 : p = 0
            · subst hp0
              replace gdp : wr.cell? ⟨g, 801, none⟩ = some (.int .i64 0) := gdp
              have hd53 : T.d 0 < 53 := by
                unfold fb2go at hgo
                simp only [Bool.or_eq_true, Bool.and_eq_true, decide_eq_true_eq] at hgo
                omega
              have hb0 : b.add 0 = b := by unfold Addr.add; split <;> simp_all
              have hpw0 := hpw
              rw [hb0] at hpw0
              clear e1 hgo hp h9 h9j
              as_aux_lemma =>
              go_wp2
              go_quiet (fail)
              go_upto_region 22 with fail
              go_quiet (fail)
              go_wp2_with (first | (go_at_call 123; refine (HSH2.out _).mono ?_; rintro e w2 ⟨rfl, hD3, hb3⟩; have HD3 := Lib.hid hD3; have HB3 := Lib.hid hb3; clear hD3 hb3))
              go_roundg (gk - 1)
              case measure => exact HMM2.out
              case rel => exact HRel2.out _ HD3.out ⟨_, HB3.out⟩
            · have hneg : -(p : Int) < 0 := by omega
              have hpos2 : (p : Int) < 9 := by omega
              have hpos3 : 0 < p := by omega
              clear e1 hgo hp h9 hp0
              as_aux_lemma =>
              go_wp2
              go_quiet (fail)
              go_upto_region 22 with fail
              go_quiet (fail)
              go_wp2_with (first | (go_at_call 123; refine (HSH2.out _).mono ?_; rintro e w2 ⟨rfl, hD3, hb3⟩; have HD3 := Lib.hid hD3; have HB3 := Lib.hid hb3; clear hD3 hb3))
              go_roundg (gk - 1)
              case measure => exact HMM2.out
              case rel => exact HRel2.out _ HD3.out ⟨_, HB3.out⟩
        · have hT0 : 0 ≤ T.dp := by
            unfold fb2go at hgo
            simp only [Bool.or_eq_true, Bool.and_eq_true, decide_eq_true_eq] at hgo
            omega
          have hT1 : ¬ T.dp < 0 := by omega
          have hT2 : (T.dp == 0) = true ∧ T.d 0 ≥ 53 ∨ (T.dp == 0) = false := by
            unfold fb2go at hgo
            simp only [Bool.or_eq_true, Bool.and_eq_true, decide_eq_true_eq] at hgo
            by_cases hz : T.dp = 0
            · exact .inl ⟨beq_iff_eq.2 hz, by omega⟩
            · exact .inr (beq_eq_false_iff_ne.2 hz)
          have hr2 : fb2 D C P (mu2 S') S' e = (T, e2) := by
            rw [← HFB2.out]
            rcases gk with _ | m
            · rfl
            · show (if fb2go T then _ else _) = _
              rw [if_neg hgo]
          have hout := outF_eq HR1.out hr2
          have HOUT0 := Lib.hid hout
          clear hgo hr2 hout
          have hF3 := HF3.out
          have i0 := hF3.i0
          have i1 := hF3.i1
          have i2 := hF3.i2
          clear hF3
          have HBW : Hid (Below g w wr) := Lib.hid (HB.out.trans HB2.out)
          obtain ⟨S3, e3, h3, hok3, hd31, hd32, hcases⟩ : ∃ (S3 : Dec) (e3 : Int), tlF D C T e2 = tl2 D C S3 e3 ∧ DecOk S3 ∧ -900000000 ≤ S3.dp ∧ S3.dp ≤ 900000000 ∧ (e2 - 1 < -1022 ∧ e3 = -1022 ∧ (∃ k : Nat, 1 ≤ k ∧ k ≤ 5000000 ∧ -(k : Int) = -(-1022 - (e2 - 1)) ∧ S3 = shR T k) ∨ ¬ e2 - 1 < -1022 ∧ e3 = e2 - 1 ∧ S3 = T) := by
            by_cases hde : e2 - 1 < -1022
            · obtain ⟨x, y, z⟩ := shR_ok (-1021 - e2).toNat T HOK2.out (by omega)
              exact ⟨_, _, by unfold tlF; rw [if_pos hde], x, by omega, by omega, .inl ⟨hde, rfl, (-1021 - e2).toNat, by omega, by omega, by omega, rfl⟩⟩
            · exact ⟨_, _, by unfold tlF; rw [if_neg hde], HOK2.out, by omega, by omega, .inr ⟨hde, rfl, rfl⟩⟩
          have HOUT := Lib.hid (HOUT0.out.trans h3)
          have HOK3 := Lib.hid hok3
          have HC3 := Lib.hid hcases
          clear h3 hok3 hcases
          have hT3 : (T.dp == 0) = true ∧ ¬ ((T.d 0 : Nat) : Int) < 53 ∨ (T.dp == 0) = false := by
            rcases hT2 with ⟨h, h'⟩ | h
            · exact .inl ⟨h, by omega⟩
            · exact .inr h
          clear hT2
          rcases hT3 with ⟨hz1, hz2⟩ | hz1
          all_goals
            go_upto_if 111 with fail
            go_cut [6, 10] from 105 to 126 (fun v u wx => v = .int .i64 e3 ∧ DecAt g S3 wx ∧ Below g wr wx)
            case first =>
              rcases HC3.out with ⟨hde, he3, k, hk1, hk2, hk3, hS3⟩ | ⟨hde, he3, hS3⟩
              · have hsh : Calls Tryz.prog 123 #[.pointer (some ⟨g, 0, none⟩), .int .i64 (-(-1022 - (e2 - 1)))] wr (DPost g S3 wr) := by
                  have := shiftDown (k := k) HD2.out HOK2.out (by omega) (by omega)
                  rwa [← hS3, hk3] at this
                have HSH3 := Lib.hid hsh
                clear hsh hk3 hS3 hk1 hk2
                subst he3
                go_wp2_with (first | (go_at_call 123; refine (HSH3.out).mono ?_; rintro e w2 ⟨rfl, hD3, hb3⟩; have HD3 := Lib.hid hD3; have HB3 := Lib.hid hb3; clear hD3 hb3))
                go_meet
                exact ⟨by congr 1; omega, HD3.out, HB3.out⟩
              · subst he3
                subst hS3
                go_wp2
                go_meet
                exact ⟨rfl, HD2.out, Below.refl _ _⟩
            case rest =>
              obtain ⟨rfl, hD, hb⟩ := hcut
              have HD3 := Lib.hid hD
              have HB3 := Lib.hid hb
              have HBW3 : Hid (Below g w wc) := Lib.hid (HBW.out.trans hb)
              have HF4 := Lib.hid (HF3.out.below hb)
              have jn := hD.facts.neg
              have j0 := HF4.out.i0
              have j1 := HF4.out.i1
              have j2 := HF4.out.i2
              have he31 : -1022 ≤ e3 := by rcases HC3.out with ⟨_, h, _⟩ | ⟨_, h, _⟩ <;> omega
              have he32 : e3 ≤ 1080000 := by rcases HC3.out with ⟨_, h, _⟩ | ⟨_, h, _⟩ <;> omega
              clear hD hb
              by_cases hov : 1024 ≤ e3
              · have hout : outF D C P S = (fbBits 0 1024 S3.neg, true) := by
                  rw [HOUT.out]
                  unfold tl2
                  rw [if_pos hov]
                have HOUT2 := Lib.hid hout
                clear hout
                have hov2 : 2047 ≤ e3 + 1023 := by omega
                clear hov
                go_wp2
                go_quiet (fail)
                go_wp2
                go_step3
                show QQ (Exit.goto 1) _ _
                rw [← HQ.out]
                refine ⟨_, rfl, ?_⟩
                go_wp2
                go_quiet (fail)
                go_wp2
                go_step3
                go_wp2
                go_quiet (fail)
                go_wp2
                all_goals try (go_quiet (fail); go_wp2)
                all_goals
                  show bodyPost _ _ _ Exit.ret _ _
                  go_ret2
                · exact ⟨by rw [fb_ot HOUT2.out (by assumption)]; rfl, by repeat (first | exact HBW3.out | refine below_nn ?_ _)⟩
                · exact ⟨by rw [fb_of HOUT2.out (by assumption)]; rfl, by repeat (first | exact HBW3.out | refine below_nn ?_ _)⟩
              · have hS4 : ∀ q, Calls Tryz.prog 123 #[.pointer (some ⟨g, 0, none⟩), .int .i64 53] (wc.drewN q) (DPost g (lsF S3 53 (D 53) (C 53)) (wc.drewN q)) := fun q => by
                  have := shiftUp (k := 53) (HD3.out.drewN q) HOK3.out (by omega) (by omega) (HF4.out.lc.below (below_nn (Below.refl _ _) q))
                  rwa [shL_one (by omega)] at this
                have HS4 := Lib.hid hS4
                have hok4 := (lsF_ok HOK3.out (k := 53) (by omega) (HF4.out.lc.ok 53 (by omega) (by omega)).1).1
                have HOK4 := Lib.hid hok4
                have hout : outF D C P S = tl3 (riF (lsF S3 53 (D 53) (C 53))) e3 (lsF S3 53 (D 53) (C 53)).neg := by
                  rw [HOUT.out]
                  unfold tl2
                  rw [if_neg hov]
                obtain ⟨S4, hs4⟩ : ∃ S4, S4 = lsF S3 53 (D 53) (C 53) := ⟨_, rfl⟩
                rw [← hs4] at hS4 hok4 hout
                have HS4 := Lib.hid hS4
                have HOK4 := Lib.hid hok4
                obtain ⟨M, hM, hM64⟩ := riF_range S4
                rw [hM] at hout
                have HOUT2 := Lib.hid hout
                have HM := Lib.hid hM
                have hri : ∀ w2, DecAt g S4 w2 → Calls Tryz.prog 124 #[.pointer (some ⟨g, 0, none⟩)] w2 fun e w' => e = .returned (.int .u64 M) ∧ w2 = w' := fun w2 hd => by
                  have := roundedInt g _ w2 hd HOK4.out
                  rwa [HM.out] at this
                have HRI := Lib.hid hri
                have hov2 : ¬ 2047 ≤ e3 + 1023 := by omega
                clear hS4 hok4 hri hM hs4 hout
                by_cases hm53 : M = 9007199254740992
                · have HRI2 : Hid (∀ w2, DecAt g S4 w2 → Calls Tryz.prog 124 #[.pointer (some ⟨g, 0, none⟩)] w2 fun e w' => e = .returned (.int .u64 9007199254740992) ∧ w2 = w') := Lib.hid (by
                    subst hm53
                    exact HRI.out)
                  have hmi : (M : Int) = 9007199254740992 := by omega
                  by_cases hov3 : 1024 ≤ e3 + 1
                  · have hout : outF D C P S = (fbBits 0 1024 S4.neg, true) := by
                      rw [HOUT2.out, tl3, if_pos hmi, if_pos hov3]
                    have HOUT3 := Lib.hid hout
                    have hov4 : 2047 ≤ e3 + 1 + 1023 := by omega
                    clear hmi hm53 hov3 hout
                    go_wp2
                    go_quiet (fail)
                    go_wp2_with (first | (go_at_call 123; refine (HS4.out _).mono ?_; rintro e w2 ⟨rfl, hD5, hb5⟩; have HD5 := Lib.hid hD5; have HB5 := Lib.hid (HBW3.out.trans ((below_nn (Below.refl _ _) _).trans hb5)); have HF5 := Lib.hid ((HF4.out.below (below_nn (Below.refl _ _) _)).below hb5); clear hD5 hb5; have k0 := HF5.out.i0; have k1 := HF5.out.i1; have k2 := HF5.out.i2; have kn := HD5.out.facts.neg) | (go_at_call 124; refine (HRI2.out _ HD5.out).mono ?_; rintro e w3 ⟨rfl, rfl⟩))
                    go_quiet (fail)
                    go_wp2
                    go_step3
                    show QQ (Exit.goto 1) _ _
                    rw [← HQ.out]
                    refine ⟨_, rfl, ?_⟩
                    go_wp2
                    go_quiet (fail)
                    go_wp2
                    go_step3
                    go_wp2
                    go_quiet (fail)
                    go_wp2
                    all_goals try (go_quiet (fail); go_wp2)
                    all_goals
                      show bodyPost _ _ _ Exit.ret _ _
                      go_ret2
                    · exact ⟨by rw [fb_ot HOUT3.out (by assumption)]; rfl, by repeat (first | exact HB5.out | refine below_nn ?_ _)⟩
                    · exact ⟨by rw [fb_of HOUT3.out (by assumption)]; rfl, by repeat (first | exact HB5.out | refine below_nn ?_ _)⟩
                  · have hout : outF D C P S = (fbBits 4503599627370496 (e3 + 1) S4.neg, false) := by
                      rw [HOUT2.out, tl3, if_pos hmi, if_neg hov3]
                    have HOUT3 := Lib.hid hout
                    have hov4 : ¬ 2047 ≤ e3 + 1 + 1023 := by omega
                    clear hmi hm53 hov3 hout
                    go_wp2
                    go_quiet (fail)
                    go_wp2_with (first | (go_at_call 123; refine (HS4.out _).mono ?_; rintro e w2 ⟨rfl, hD5, hb5⟩; have HD5 := Lib.hid hD5; have HB5 := Lib.hid (HBW3.out.trans ((below_nn (Below.refl _ _) _).trans hb5)); have HF5 := Lib.hid ((HF4.out.below (below_nn (Below.refl _ _) _)).below hb5); clear hD5 hb5; have k0 := HF5.out.i0; have k1 := HF5.out.i1; have k2 := HF5.out.i2; have kn := HD5.out.facts.neg) | (go_at_call 124; refine (HRI2.out _ HD5.out).mono ?_; rintro e w3 ⟨rfl, rfl⟩))
                    go_quiet (fail)
                    go_wp2
                    go_step3
                    show QQ (Exit.goto 0) _ _
                    rw [← HQ.out]
                    refine ⟨_, rfl, ?_⟩
                    go_wp2
                    go_quiet (fail)
                    go_wp2
                    all_goals try (go_quiet (fail); go_wp2)
                    all_goals
                      show bodyPost _ _ _ Exit.ret _ _
                      go_ret2
                    · exact ⟨by rw [fb_mt HOUT3.out (by assumption)]; rfl, by repeat (first | exact HB5.out | refine below_nn ?_ _)⟩
                    · exact ⟨by rw [fb_mf HOUT3.out (by assumption)]; rfl, by repeat (first | exact HB5.out | refine below_nn ?_ _)⟩
                have hm53c : ¬ (M : Int) = 9007199254740992 := by omega
                have hm53b : (((M : Nat) : Int) == 9007199254740992) = false := beq_eq_false_iff_ne.2 (by omega)
                go_wp2
                go_quiet (fail)
                go_wp2_with (first | (go_at_call 123; refine (HS4.out _).mono ?_; rintro e w2 ⟨rfl, hD5, hb5⟩; have HD5 := Lib.hid hD5; have HB5 := Lib.hid (HBW3.out.trans ((below_nn (Below.refl _ _) _).trans hb5)); have HF5 := Lib.hid ((HF4.out.below (below_nn (Below.refl _ _) _)).below hb5); clear hD5 hb5; have k0 := HF5.out.i0; have k1 := HF5.out.i1; have k2 := HF5.out.i2; have kn := HD5.out.facts.neg) | (go_at_call 124; refine (HRI.out _ HD5.out).mono ?_; rintro e w3 ⟨rfl, rfl⟩))
                all_goals
                  go_step3
                  show QQ (Exit.goto 0) _ _
                  rw [← HQ.out]
                  refine ⟨_, rfl, ?_⟩
                  go_wp2
                  go_quiet (fail)
                  go_wp2
                all_goals try (go_quiet (fail); go_wp2)
                all_goals
                  show bodyPost _ _ _ Exit.ret _ _
                  go_ret2
                · exact ⟨by rw [tl3_zt HOUT2.out hm53c (by assumption) (by assumption)]; rfl, below_nn (below_nn HB5.out _) _⟩
                · exact ⟨by rw [tl3_zf HOUT2.out hm53c (by assumption) (by assumption)]; rfl, below_nn HB5.out _⟩
                · exact ⟨by rw [tl3_nt HOUT2.out hm53c (by assumption) (by assumption)]; rfl, below_nn (below_nn HB5.out _) _⟩
                · exact ⟨by rw [tl3_nf HOUT2.out hm53c (by assumption) (by assumption)]; rfl, below_nn HB5.out _⟩

end Go.Proofs.YtdabllkphibfmaaGreatDoor

/- floatBits, every decimal: one answer. -/
namespace Go.Proofs.YtdabllkphibfmaaGreatDoor
open Go Go.RowKit
set_option linter.unusedSimpArgs false
set_option linter.unusedVariables false

section
variable {neg : Bool} {r : Int × Bool}
theorem fb_zt (h : r = (fbBits 0 (-1023) neg, false)) (hn : neg = true) : r = (bits .or .u64 (bits .or .u64 (bits .and .u64 0 4503599627370495) (IntKind.u64.wrap (IntKind.u64.wrap (bits .and .i64 0 2047) * 4503599627370496))) 9223372036854775808, false) := by
  rw [h, hn]; rfl
theorem fb_zf (h : r = (fbBits 0 (-1023) neg, false)) (hn : neg = false) : r = (bits .or .u64 (bits .and .u64 0 4503599627370495) (IntKind.u64.wrap (IntKind.u64.wrap (bits .and .i64 0 2047) * 4503599627370496)), false) := by
  rw [h, hn]; rfl
end

set_option maxRecDepth 1000000 in
set_option maxHeartbeats 8000000 in
theorem floatBits_nought {g : Nat} (S : Dec) (h0 : S.nd = 0) (w : World) (h : DecAt g S w) (i0 : w.cell? ⟨8, 0, none⟩ = some (.int .u64 52)) (i1 : w.cell? ⟨8, 1, none⟩ = some (.int .u64 11)) (i2 : w.cell? ⟨8, 2, none⟩ = some (.int .i64 (-1023))) {r : Int × Bool} (hr : r = (fbBits 0 (-1023) S.neg, false)) :
    Calls Tryz.prog 96 #[.pointer (some ⟨g, 0, none⟩), .pointer (some ⟨8, 0, none⟩)] w (FbPost g r.1 r.2 w) := by
  have HR := Lib.hid hr
  have f1 := h.facts.nd
  have jn := h.facts.neg
  rw [h0] at f1
  clear h hr
  go_enter Tryz.func96, Tryz.ntmps96
  go_wp2
  refine wp_scope_fwd ?_
  generalize hQQ : Exit.fwd Tryz.prog _ _ = QQ
  have HQ := Lib.hid hQQ
  clear hQQ
  go_wp2
  go_step3
  show QQ (Exit.goto 0) _ _
  rw [← HQ.out]
  refine ⟨_, rfl, ?_⟩
  go_wp2
  go_quiet (fail)
  go_wp2
  all_goals try (go_quiet (fail); go_wp2)
  all_goals
    show bodyPost _ _ _ Exit.ret _ _
    go_ret2
  · exact ⟨by rw [fb_zt HR.out (by assumption)]; rfl, by repeat (first | exact Below.refl _ _ | refine below_nn ?_ _)⟩
  · exact ⟨by rw [fb_zf HR.out (by assumption)]; rfl, by repeat (first | exact Below.refl _ _ | refine below_nn ?_ _)⟩

set_option maxRecDepth 1000000 in
set_option maxHeartbeats 8000000 in
theorem floatBits_high {g : Nat} (S : Dec) (h0 : S.nd ≠ 0) (hdp : 310 < S.dp) (w : World) (h : DecAt g S w) (i0 : w.cell? ⟨8, 0, none⟩ = some (.int .u64 52)) (i1 : w.cell? ⟨8, 1, none⟩ = some (.int .u64 11)) (i2 : w.cell? ⟨8, 2, none⟩ = some (.int .i64 (-1023))) {r : Int × Bool} (hr : r = (fbBits 0 1024 S.neg, true)) :
    Calls Tryz.prog 96 #[.pointer (some ⟨g, 0, none⟩), .pointer (some ⟨8, 0, none⟩)] w (FbPost g r.1 r.2 w) := by
  have HR := Lib.hid hr
  have f1 := h.facts.nd
  have f2 := h.facts.dp
  have jn := h.facts.neg
  have hnd : ((S.nd : Int) == 0) = false := beq_eq_false_iff_ne.2 (by omega)
  clear h hr
  go_enter Tryz.func96, Tryz.ntmps96
  go_wp2
  refine wp_scope_fwd ?_
  generalize hQQ : Exit.fwd Tryz.prog _ _ = QQ
  have HQ := Lib.hid hQQ
  clear hQQ
  go_wp2
  go_step3
  show QQ (Exit.goto 1) _ _
  rw [← HQ.out]
  refine ⟨_, rfl, ?_⟩
  go_wp2
  go_quiet (fail)
  go_wp2
  go_step3
  go_wp2
  go_quiet (fail)
  go_wp2
  all_goals try (go_quiet (fail); go_wp2)
  all_goals
    show bodyPost _ _ _ Exit.ret _ _
    go_ret2
  · exact ⟨by rw [fb_ot HR.out (by assumption)]; rfl, by repeat (first | exact Below.refl _ _ | refine below_nn ?_ _)⟩
  · exact ⟨by rw [fb_of HR.out (by assumption)]; rfl, by repeat (first | exact Below.refl _ _ | refine below_nn ?_ _)⟩

set_option maxRecDepth 1000000 in
set_option maxHeartbeats 8000000 in
theorem floatBits_low {g : Nat} (S : Dec) (h0 : S.nd ≠ 0) (hdp : S.dp < -330) (w : World) (h : DecAt g S w) (i0 : w.cell? ⟨8, 0, none⟩ = some (.int .u64 52)) (i1 : w.cell? ⟨8, 1, none⟩ = some (.int .u64 11)) (i2 : w.cell? ⟨8, 2, none⟩ = some (.int .i64 (-1023))) {r : Int × Bool} (hr : r = (fbBits 0 (-1023) S.neg, false)) :
    Calls Tryz.prog 96 #[.pointer (some ⟨g, 0, none⟩), .pointer (some ⟨8, 0, none⟩)] w (FbPost g r.1 r.2 w) := by
  have HR := Lib.hid hr
  have f1 := h.facts.nd
  have f2 := h.facts.dp
  have jn := h.facts.neg
  have hnd : ((S.nd : Int) == 0) = false := beq_eq_false_iff_ne.2 (by omega)
  have hdp2 : ¬ 310 < S.dp := by omega
  clear h hr
  go_enter Tryz.func96, Tryz.ntmps96
  go_wp2
  refine wp_scope_fwd ?_
  generalize hQQ : Exit.fwd Tryz.prog _ _ = QQ
  have HQ := Lib.hid hQQ
  clear hQQ
  go_wp2
  go_step3
  show QQ (Exit.goto 0) _ _
  rw [← HQ.out]
  refine ⟨_, rfl, ?_⟩
  go_wp2
  go_quiet (fail)
  go_wp2
  all_goals try (go_quiet (fail); go_wp2)
  all_goals
    show bodyPost _ _ _ Exit.ret _ _
    go_ret2
  · exact ⟨by rw [fb_zt HR.out (by assumption)]; rfl, by repeat (first | exact Below.refl _ _ | refine below_nn ?_ _)⟩
  · exact ⟨by rw [fb_zf HR.out (by assumption)]; rfl, by repeat (first | exact Below.refl _ _ | refine below_nn ?_ _)⟩

/-- What floatBits gives, of every decimal. -/
def fbOut (D : Nat → Nat) (C : Nat → List UInt8) (P : Nat → Nat) (S : Dec) : Int × Bool :=
  if S.nd = 0 then (fbBits 0 (-1023) S.neg, false) else if 310 < S.dp then (fbBits 0 1024 S.neg, true) else if S.dp < -330 then (fbBits 0 (-1023) S.neg, false) else outF D C P S

theorem floatBits {D : Nat → Nat} {C : Nat → List UInt8} {P : Nat → Nat} {g : Nat} {a : Addr} {c : Nat} {b : Addr} {cb : Nat} (S : Dec) (ho : S.nd ≠ 0 → DecOk S) (w : World) (h : DecAt g S w) (hf : Fb D C P g w a c b cb) :
    Calls Tryz.prog 96 #[.pointer (some ⟨g, 0, none⟩), .pointer (some ⟨8, 0, none⟩)] w (FbPost g (fbOut D C P S).1 (fbOut D C P S).2 w) := by
  by_cases h0 : S.nd = 0
  · exact floatBits_nought S h0 w h hf.i0 hf.i1 hf.i2 (by unfold fbOut; rw [if_pos h0])
  by_cases h1 : 310 < S.dp
  · exact floatBits_high S h0 h1 w h hf.i0 hf.i1 hf.i2 (by unfold fbOut; rw [if_neg h0, if_pos h1])
  by_cases h2 : S.dp < -330
  · exact floatBits_low S h0 h2 w h hf.i0 hf.i1 hf.i2 (by unfold fbOut; rw [if_neg h0, if_neg h1, if_pos h2])
  have e : fbOut D C P S = outF D C P S := by unfold fbOut; rw [if_neg h0, if_neg h1, if_neg h2]
  rw [e]
  exact floatBits_mid S (ho h0) (by omega) w h hf

end Go.Proofs.YtdabllkphibfmaaGreatDoor
