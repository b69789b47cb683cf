/- A decimal's text: the walk. -/
import Derived.Test.YtpkfdbhpmhahaaaGreatDoorGc
import Derived.Test.YtpkfdbhpmhahaaaGreatDoorWsa
import Derived.Test.YtpkfdbhpmhahaaaGreatDoorGa
import Derived.Deep.DeepCutAuto
import Derived.Deep.CutRange
import Derived.WalkMore
import Derived.Deep.LoopGhost
namespace Go.Proofs.YtpkfdbhpmhahaaaGreatDoor
open Go Go.RowKit Go.Lib
set_option linter.unusedSimpArgs false
set_option linter.unusedVariables false

theorem andMask (x k : Nat) (hx : x < 18446744073709551616) (hk : k ≤ 63) : bits .and .u64 (x : Int) ((2 ^ k - 1 : Nat) : Int) = ((x % 2 ^ k : Nat) : Int) := by
  rw [u64_and_nat x (2 ^ k - 1) hx (Nat.lt_of_le_of_lt (Nat.sub_le _ _) (Nat.lt_of_le_of_lt (Nat.pow_le_pow_right (by decide) hk) (by decide))), Nat.and_two_pow_sub_one_eq_mod]

def zrow48 : List UInt8 := List.replicate 48 0
def dStart (h l : Nat) : DS :=
  if h / 2305843009213693952 % 4 = 3 then ⟨(h / 140737488355328 % 16384 : Nat) - 6176, 0, 0, 48, 48, 48 + ((h / 140737488355328 % 16384 : Nat) - 6176), 0, zrow48⟩
  else ⟨(h / 562949953421312 % 16384 : Nat) - 6176, h % 562949953421312, l, 48, 48, 48 + ((h / 562949953421312 % 16384 : Nat) - 6176), 0, zrow48⟩
/-- The end: the sign, the exponent. -/
def dEnd (pos : Nat) (S : DS) : List UInt8 :=
  (S.row.set (S.last - 1) 45).drop (S.last - 1 + pos) ++ (if 0 < S.exp then [69, 43] ++ itoa S.exp else if S.exp < 0 then [69] ++ itoa S.exp else [])
def decT (h l : Nat) : ByteArray :=
  if h / 288230376151711744 % 32 = 31 then ⟨#[78, 97, 78]⟩
  else if h / 288230376151711744 % 32 = 30 then (if h / 9223372036854775808 % 2 = 0 then ⟨#[73, 110, 102, 105, 110, 105, 116, 121]⟩ else ⟨#[45, 73, 110, 102, 105, 110, 105, 116, 121]⟩)
  else if (dStart h l).hi = 0 ∧ (dStart h l).lo = 0 ∧ (dStart h l).exp = 0 then (if h / 9223372036854775808 % 2 = 0 then ⟨#[48]⟩ else ⟨#[45, 48]⟩)
  else ⟨(dEnd (if h / 9223372036854775808 % 2 = 0 then 1 else 0) ((dStart h l).outer 5)).toArray⟩

/-- Behind the loop: exponent, place, row. -/
structure EndR (g : Nat) (w : World) (S : DS) (v6 v10 : Value) (wx : World) : Prop where
  e6 : v6 = .int .i64 S.exp
  e10 : v10 = .int .i64 (S.last : Int)
  row : wx.heap[g]? = some (.cells (byteCells S.row).toArray 173 (0, 0))
  below : Below g w wx
  len : S.row.length = 48
  last : 1 ≤ S.last ∧ S.last ≤ 48
  exp : -6176 ≤ S.exp ∧ S.exp ≤ 20000

/-- The row stands, all else is as it was. -/
structure RowS (g : Nat) (w : World) (S : DS) (wx : World) : Prop where
  row : wx.heap[g]? = some (.cells (byteCells S.row).toArray 173 (0, 0))
  below : Below g w wx
/-- The head of the outer loop: m rounds are left; G is what comes of it all. -/
structure OutR (g : Nat) (w : World) (G : DS) (m : Nat) (S : DS) (wx : World) : Prop where
  m5 : m ≤ 5
  out : S.outer m = G
  ok : S.Ok (9 * (5 - m))
  rem : S.rem = 0
  at_ : RowS g w S wx
/-- The head of the inner loop: n rounds are left; R is what comes of it. -/
structure InR (g : Nat) (w : World) (R : DS × Bool) (k n : Nat) (S : DS) (wx : World) : Prop where
  n9 : n ≤ 9
  out : S.inner n = R
  ok : S.Ok (k + (9 - n))
  rem : S.rem < 10 ^ n
  at_ : RowS g w S wx
theorem DS.Ok.endR {g : Nat} {w wx : World} {S : DS} {k : Nat} (h : S.Ok k) (hk : k ≤ 45) (hr : RowS g w S wx) : EndR g w S (.int .i64 S.exp) (.int .i64 (S.last : Int)) wx := by
  obtain ⟨q1, q2, q3, q4, q5, q6, q7, q8, q9⟩ := h
  exact ⟨rfl, rfl, hr.row, hr.below, q1, ⟨by omega, q7.2⟩, ⟨q8.1, by omega⟩⟩

theorem RowS.cellAt {g : Nat} {w wx : World} {S : DS} (h : RowS g w S wx) (hl : S.row.length = 48) (i : Nat) (hi : i < 48) : ∃ k : Int, wx.cell? ⟨g, i, none⟩ = some (.int .u8 k) := by
  refine ⟨((S.row[i]'(by omega)).toNat : Int), ?_⟩
  simp [World.cell?, h.row, byteCells, show i < S.row.length by omega]
theorem RowS.frz {g : Nat} {w wx : World} {S : DS} (h : RowS g w S wx) (o : Nat) : wx.frozen? ⟨g, o, none⟩ = false := by simp [World.frozen?, h.row]
theorem RowS.put {g : Nat} {w wx : World} {S S' : DS} (h : RowS g w S wx) (i : Nat) (c : UInt8) (k : Int) (hk : k = (c.toNat : Int)) (hr : S'.row = S.row.set i c) : RowS g w S' (wx.setCell ⟨g, i, none⟩ (.int .u8 k)) := by
  subst hk
  refine ⟨?_, h.below.setCell (Nat.le_refl _) _⟩
  rw [heap_set h.row, hr]
  simp [byteCells, List.map_set]
theorem RowS.same {g : Nat} {w wx : World} {S S' : DS} (h : RowS g w S wx) (hr : S'.row = S.row) : RowS g w S' wx := ⟨by rw [hr]; exact h.row, h.below⟩
theorem DS.Ok.pointE {S : DS} {k : Nat} (h : S.Ok k) (hk : k < 45) : ∃ e3 la3 J dd3 rw3, S.point = ⟨e3, S.hi, S.lo, la3, J + 1, dd3, S.rem, rw3⟩ ∧ rw3.length = 48 ∧ J + 1 ≤ 48 ∧ J ≤ la3 ∧ la3 ≤ 48 ∧ -6176 ≤ e3 ∧ e3 ≤ 11048 + 48 * k ∧ -6128 ≤ dd3 ∧ dd3 ≤ 11000 := by
  obtain ⟨p1, p2, p3, p4, p5, p6, p7, p8, p9, p10, p11, p12, _⟩ := h.point hk
  generalize S.point = P at *
  obtain ⟨pe, ph, pl, pa, pi, pd, pr, pw⟩ := P
  simp only at p1 p2 p3 p4 p5 p6 p7 p8 p9 p10 p11 p12
  subst p2 p3 p4
  obtain ⟨J, rfl⟩ : ∃ J, pi = J + 1 := ⟨pi - 1, by omega⟩
  exact ⟨pe, pa, J, pd, pw, rfl, p1, p6, by omega, p8, p9, p10, p11, p12⟩

theorem bcat (a b : List UInt8) : (⟨a.toArray⟩ : ByteArray) ++ ⟨b.toArray⟩ = ⟨(a ++ b).toArray⟩ := by
  apply ByteArray.ext
  simp [ByteArray.data_append]
theorem rowText {g A : Nat} {z : Int} (hz : z = (A : Int)) {row : List UInt8} {W : World} (hr : W.heap[g]? = some (.cells (byteCells row).toArray 173 (0, 0))) (hl : row.length = 48) (hA : A ≤ 48) :
    ∃ ad, (∀ W', (Instr.sliceAt 173 (.pointer (some ⟨g, 0, none⟩)) (some (.int .i64 z)) none none).run Tryz.prog W' = .ok (.slice (some ad) (48 - A) (48 - A)) W') ∧
      (∀ W' : World, W'.heap[g]? = W.heap[g]? → (convert 23 9 (.slice (some ad) (48 - A) (48 - A))).run Tryz.prog W' = .ok (.string ⟨(row.drop A).toArray⟩) W') := by
  have hal : Tryz.prog.arrayLen 173 = 48 := by kernel_rfl
  refine ⟨if 48 = A then ⟨g, 0, none⟩ else (⟨g, 0, none⟩ : Addr).add (A * 1), fun W' => ?_, fun W' hk => ?_⟩
  · subst hz
    rw [run_sliceAt_array_l W' 173 ⟨g, 0, none⟩ (by kernel_rfl) .i64 (A : Int) (by omega) (by rw [hal]; omega)]
    have hsz : ∀ W : World, (sizeOf (Tryz.prog.elem 173)).run Tryz.prog W = .ok 1 W := fun W => by kernel_rfl
    rw [hsz]
    simp only [Result.andThen, slicedAt, hal, Int.toNat_natCast]
  · have hlen : (row.drop A).length = 48 - A := by simp [hl]
    have h := run_convert_bytes_back (P := Tryz.prog) W' 23 9 5 (if 48 = A then ⟨g, 0, none⟩ else (⟨g, 0, none⟩ : Addr).add (A * 1)) (48 - A) (row.drop A) Tryz.underlying23 Tryz.underlying5 Tryz.underlying9 (fun j hj => by
      have hne : ¬ 48 = A := by omega
      rw [if_neg hne]
      have e : ((⟨g, 0, none⟩ : Addr).add (A * 1)).add j = ⟨g, A + j, none⟩ := by
        simp only [Nat.mul_one]
        rw [show (⟨g, 0, none⟩ : Addr).add A = ⟨g, A, none⟩ by rw [Lib.add_plain, Nat.zero_add]]
        unfold Addr.add
        split <;> simp_all
      rw [e]
      have hj2 : A + j < row.length := by omega
      simp [World.cell?, hk, hr, byteCells, hj2])
    rw [hlen] at h
    exact h

set_option maxRecDepth 100000 in
set_option maxHeartbeats 8000000 in
theorem decStr (h l : Nat) (hh : h < 18446744073709551616) (hl : l < 18446744073709551616) (w : World) (hT : Tabs w) : Calls Tryz.prog 101 #[.int .u64 h, .int .u64 l] w (Txt (decT h l) w) := by
  have HT := Lib.hid hT
  clear hT
  obtain ⟨P, hP⟩ : ∃ x, x = h / 9223372036854775808 % 2 := ⟨_, rfl⟩
  obtain ⟨K5, hK5⟩ : ∃ x, x = h / 288230376151711744 % 32 := ⟨_, rfl⟩
  obtain ⟨K2, hK2⟩ : ∃ x, x = h / 2305843009213693952 % 4 := ⟨_, rfl⟩
  obtain ⟨E1, hE1⟩ : ∃ x, x = h / 140737488355328 % 16384 := ⟨_, rfl⟩
  obtain ⟨E2, hE2⟩ : ∃ x, x = h / 562949953421312 % 16384 := ⟨_, rfl⟩
  obtain ⟨H49, hH⟩ : ∃ x, x = h % 562949953421312 := ⟨_, rfl⟩
  obtain ⟨T, hTT⟩ : ∃ x, x = decT h l := ⟨_, rfl⟩
  have fP : bits .and .u64 ((h : Int) / 9223372036854775808) 1 = (P : Int) := by rw [hP]; exact andMask (h / 9223372036854775808) 1 (by omega) (by decide)
  have fK5 : bits .and .u64 ((h : Int) / 288230376151711744) 31 = (K5 : Int) := by rw [hK5]; exact andMask (h / 288230376151711744) 5 (by omega) (by decide)
  have fK2 : bits .and .u64 ((h : Int) / 2305843009213693952) 3 = (K2 : Int) := by rw [hK2]; exact andMask (h / 2305843009213693952) 2 (by omega) (by decide)
  have fE1 : bits .and .u64 ((h : Int) / 140737488355328) 16383 = (E1 : Int) := by rw [hE1]; exact andMask (h / 140737488355328) 14 (by omega) (by decide)
  have fE2 : bits .and .u64 ((h : Int) / 562949953421312) 16383 = (E2 : Int) := by rw [hE2]; exact andMask (h / 562949953421312) 14 (by omega) (by decide)
  have fH : bits .and .u64 (h : Int) 562949953421311 = (H49 : Int) := by rw [hH]; exact andMask h 49 hh (by decide)
  have hP2 : P = 0 ∨ P = 1 := by omega
  have bE1 : E1 < 16384 := by omega
  have bE2 : E2 < 16384 := by omega
  have bH49 : H49 < 18446744073709551616 := by omega
  have HTT := Lib.hid (And.intro hTT (And.intro hP (And.intro hK5 (And.intro hK2 (And.intro hE1 (And.intro hE2 hH))))))
  clear hTT hP hK5 hK2 hE1 hE2 hH
  rw [show decT h l = T from HTT.out.1.symm]
  go_enter Tryz.func101, Tryz.ntmps101
  go_wp2
  apply wp_scope_straight
  go_upto_if 20 with (fail)
  go_cut [5] (fun v5 wx => v5 = .int .i64 ((1 - P : Nat) : Int) ∧ w = wx)
  case first =>
    rcases hP2 with rfl | rfl
    all_goals
      go_wp2
      go_meet
      exact ⟨rfl, rfl⟩
  case rest =>
    obtain ⟨rfl, rfl⟩ := hcut
    as_aux_lemma =>
      have hpos : (1 - P : Nat) ≤ 1 := by omega
      by_cases h31 : K5 = 31
      · have hT31 : T = ⟨#[78, 97, 78]⟩ := by have hx := HTT.out; rw [hx.1]; unfold decT; rw [if_pos (hx.2.2.1.symm.trans h31)]
        as_aux_lemma =>
          have HT31 := Lib.hid hT31
          clear hT31
          subst h31
          go_wp2
          go_ret
          exact ⟨by rw [HT31.out]; rfl, Below.refl _ _⟩
      by_cases h30 : K5 = 30
      · have hT30 : T = if P = 0 then ⟨#[73, 110, 102, 105, 110, 105, 116, 121]⟩ else ⟨#[45, 73, 110, 102, 105, 110, 105, 116, 121]⟩ := by
          have hx := HTT.out
          rw [hx.1, hx.2.1]; unfold decT; rw [if_neg (fun e => h31 (hx.2.2.1.trans e)), if_pos (hx.2.2.1.symm.trans h30)]
        as_aux_lemma =>
          have HT30 := Lib.hid hT30
          clear hT30 h31 HTT
          subst h30
          rcases hP2 with rfl | rfl
          all_goals
            go_wp2
            go_ret
            exact ⟨by rw [HT30.out]; rfl, Below.refl _ _⟩
      have n31 : ((K5 : Int) == 31) = false := by simp only [beq_eq_false_iff_ne, ne_eq]; omega
      have n30 : ((K5 : Int) == 30) = false := by simp only [beq_eq_false_iff_ne, ne_eq]; omega
      have HK := Lib.hid (And.intro h31 h30)
      clear h31 h30
      go_upto_if 34 with (fail)
      obtain ⟨E0, hE0⟩ : ∃ x, x = if K2 = 3 then E1 else E2 := ⟨_, rfl⟩
      obtain ⟨Hi, hHi⟩ : ∃ x, x = if K2 = 3 then 0 else H49 := ⟨_, rfl⟩
      obtain ⟨Lo, hLo⟩ : ∃ x, x = if K2 = 3 then 0 else l := ⟨_, rfl⟩
      have HEE := Lib.hid (And.intro hE0 (And.intro hHi hLo))
      clear hE0 hHi hLo
      go_cut [6, 7, 8] (fun v6 v7 v8 wx => v6 = .int .i64 (E0 : Int) ∧ v7 = .int .u64 (Hi : Int) ∧ v8 = .int .u64 (Lo : Int) ∧ w = wx)
      case first =>
        as_aux_lemma =>
          have hx := HEE.out
          by_cases h3 : K2 = 3
          · rw [if_pos h3, if_pos h3, if_pos h3] at hx
            obtain ⟨rfl, rfl, rfl⟩ := hx
            subst h3
            go_wp2
            go_meet
            exact ⟨rfl, rfl, rfl, rfl⟩
          · rw [if_neg h3, if_neg h3, if_neg h3] at hx
            obtain ⟨rfl, rfl, rfl⟩ := hx
            have n3 : ((K2 : Int) == 3) = false := by simp only [beq_eq_false_iff_ne, ne_eq]; omega
            clear h3
            go_wp2
            go_meet
            exact ⟨rfl, rfl, rfl, rfl⟩
      case rest =>
        obtain ⟨rfl, rfl, rfl, rfl⟩ := hcut
        as_aux_lemma =>
          have bE0 : E0 < 16384 := by have := HEE.out.1; split at this <;> omega
          have bHi : Hi < 18446744073709551616 := by have := HEE.out.2.1; split at this <;> omega
          have bLo : Lo < 18446744073709551616 := by have := HEE.out.2.2; split at this <;> omega
          obtain ⟨X0, hX0⟩ : ∃ x : Int, x = (E0 : Int) - 6176 := ⟨_, rfl⟩
          have fX0 : IntKind.i64.wrap ((E0 : Int) + -6176) = X0 := by rw [IntKind.wrap_i64]; omega
          have bX0 : -6176 ≤ X0 ∧ X0 ≤ 10208 := by omega
          have hS0 : dStart h l = ⟨X0, Hi, Lo, 48, 48, 48 + X0, 0, zrow48⟩ := by
            obtain ⟨_, _, _, hK2, hE1, hE2, hH⟩ := HTT.out
            obtain ⟨e1, e2, e3⟩ := HEE.out
            unfold dStart
            rw [← hK2, ← hE1, ← hE2, ← hH, hX0, e1, e2, e3]
            split <;> rfl
          have HS0 := Lib.hid (And.intro hS0 hX0)
          clear hS0 hX0 fE1 fE2 fH fK2 fK5 n31 n30 bE1 bE2 bH49
          by_cases hz : Hi = 0 ∧ Lo = 0 ∧ X0 = 0
          · have hTz : T = if P = 0 then ⟨#[48]⟩ else ⟨#[45, 48]⟩ := by
              have hx := HTT.out
              rw [hx.1, hx.2.1]; unfold decT
              rw [if_neg (fun e => HK.out.1 (hx.2.2.1.trans e)), if_neg (fun e => HK.out.2 (hx.2.2.1.trans e)), HS0.out.1, if_pos hz]
            as_aux_lemma =>
              have HTz := Lib.hid hTz
              obtain ⟨rfl, rfl, rfl⟩ := hz
              clear hTz HTT HEE HS0 HK
              rcases hP2 with rfl | rfl
              all_goals
                go_wp2
                go_ret
                exact ⟨by rw [HTz.out]; rfl, Below.refl _ _⟩
          have hTn : T = ⟨(dEnd (1 - P) ((dStart h l).outer 5)).toArray⟩ := by
            have hx := HTT.out
            rw [hx.1]; unfold decT
            rw [if_neg (fun e => HK.out.1 (hx.2.2.1.trans e)), if_neg (fun e => HK.out.2 (hx.2.2.1.trans e)), HS0.out.1, if_neg hz, ← HS0.out.1, ← hx.2.1]
            rcases hP2 with rfl | rfl <;> rfl
          have HTn := Lib.hid hTn
          have hq : Hi ≠ 0 ∨ Lo ≠ 0 ∨ X0 ≠ 0 := by omega
          clear hTn hz
          have hOk : (dStart h l).Ok 0 := by
            rw [HS0.out.1]
            refine ⟨rfl, bHi, bLo, (by decide : 0 < 1000000000), Nat.le_refl _, ?_, ⟨Nat.le_refl _, Nat.le_refl _⟩, ⟨bX0.1, (by omega : X0 ≤ 11000 + 48 * ((0 : Nat) : Int))⟩, ⟨(by omega : -6128 ≤ 48 + X0), (by omega : 48 + X0 ≤ 11000)⟩⟩
            unfold DS.phi
            simp only
            repeat' split
            all_goals omega
          have HOk := Lib.hid hOk
          clear hOk
          go_upto_region 18 with (fail)
          go_cut [56] (fun v wx => v = .bool false ∧ w = wx)
          case first =>
            as_aux_lemma =>
              by_cases a1 : Hi = 0
              · by_cases a2 : Lo = 0
                · have n3 : (X0 == 0) = false := by simp only [beq_eq_false_iff_ne, ne_eq]; omega
                  subst a1 a2
                  go_wp2
                  go_meet
                  exact ⟨rfl, rfl⟩
                · have n2 : ((Lo : Int) == 0) = false := by simp only [beq_eq_false_iff_ne, ne_eq]; omega
                  subst a1
                  go_wp2
                  go_meet
                  exact ⟨rfl, rfl⟩
              · have n1 : ((Hi : Int) == 0) = false := by simp only [beq_eq_false_iff_ne, ne_eq]; omega
                go_wp2
                go_meet
                exact ⟨rfl, rfl⟩
          case rest =>
            obtain ⟨rfl, rfl⟩ := hcut
            as_aux_lemma =>
              clear hq hpos fX0 fP
              go_upto_region 24 with (fail)
              have hb0 := (Below.refl w.heap.size w).alloc (Nat.le_refl _) (.cells #[.int .u8 0, .int .u8 0, .int .u8 0, .int .u8 0, .int .u8 0, .int .u8 0, .int .u8 0, .int .u8 0, .int .u8 0, .int .u8 0, .int .u8 0, .int .u8 0, .int .u8 0, .int .u8 0, .int .u8 0, .int .u8 0, .int .u8 0, .int .u8 0, .int .u8 0, .int .u8 0, .int .u8 0, .int .u8 0, .int .u8 0, .int .u8 0, .int .u8 0, .int .u8 0, .int .u8 0, .int .u8 0, .int .u8 0, .int .u8 0, .int .u8 0, .int .u8 0, .int .u8 0, .int .u8 0, .int .u8 0, .int .u8 0, .int .u8 0, .int .u8 0, .int .u8 0, .int .u8 0, .int .u8 0, .int .u8 0, .int .u8 0, .int .u8 0, .int .u8 0, .int .u8 0, .int .u8 0, .int .u8 0] 173)
              have hn0 := heap_alloc_new w (.cells #[.int .u8 0, .int .u8 0, .int .u8 0, .int .u8 0, .int .u8 0, .int .u8 0, .int .u8 0, .int .u8 0, .int .u8 0, .int .u8 0, .int .u8 0, .int .u8 0, .int .u8 0, .int .u8 0, .int .u8 0, .int .u8 0, .int .u8 0, .int .u8 0, .int .u8 0, .int .u8 0, .int .u8 0, .int .u8 0, .int .u8 0, .int .u8 0, .int .u8 0, .int .u8 0, .int .u8 0, .int .u8 0, .int .u8 0, .int .u8 0, .int .u8 0, .int .u8 0, .int .u8 0, .int .u8 0, .int .u8 0, .int .u8 0, .int .u8 0, .int .u8 0, .int .u8 0, .int .u8 0, .int .u8 0, .int .u8 0, .int .u8 0, .int .u8 0, .int .u8 0, .int .u8 0, .int .u8 0, .int .u8 0] 173)
              generalize (w.alloc (.cells #[.int .u8 0, .int .u8 0, .int .u8 0, .int .u8 0, .int .u8 0, .int .u8 0, .int .u8 0, .int .u8 0, .int .u8 0, .int .u8 0, .int .u8 0, .int .u8 0, .int .u8 0, .int .u8 0, .int .u8 0, .int .u8 0, .int .u8 0, .int .u8 0, .int .u8 0, .int .u8 0, .int .u8 0, .int .u8 0, .int .u8 0, .int .u8 0, .int .u8 0, .int .u8 0, .int .u8 0, .int .u8 0, .int .u8 0, .int .u8 0, .int .u8 0, .int .u8 0, .int .u8 0, .int .u8 0, .int .u8 0, .int .u8 0, .int .u8 0, .int .u8 0, .int .u8 0, .int .u8 0, .int .u8 0, .int .u8 0, .int .u8 0, .int .u8 0, .int .u8 0, .int .u8 0, .int .u8 0, .int .u8 0] 173)) = W0 at hb0 hn0 ⊢
              have HR0 : Hid (W0.heap[w.heap.size]? = some (.cells (byteCells (dStart h l).row).toArray 173 (0, 0)) ∧ Below w.heap.size w W0) := Lib.hid ⟨by rw [HS0.out.1]; exact hn0, hb0⟩
              clear hb0 hn0
              go_wp2
              apply wp_label
              go_upto_block 1 with (fail)
              go_cut [6, 7, 8, 10, 11, 12, 13, 14, 15, 16] (fun v6 v7 v8 v10 v11 v12 v13 v14 v15 v16 wx => Aside (EndR w.heap.size w ((dStart h l).outer 5) v6 v10 wx))
              case first =>
                have HG : Hid (OutR w.heap.size w ((dStart h l).outer 5) 5 (dStart h l) W0) := Lib.hid ⟨Nat.le_refl _, rfl, HOk.out, by rw [HS0.out.1], ⟨HR0.out.1, HR0.out.2⟩⟩
                generalize hG : (dStart h l).outer 5 = G at HG ⊢
                have HGE := Lib.hid hG
                clear hG
                have hst : (Value.int .i64 X0 = .int .i64 (dStart h l).exp) ∧ (Value.int .u64 (Hi : Int) = .int .u64 (dStart h l).hi) ∧ (Value.int .u64 (Lo : Int) = .int .u64 (dStart h l).lo) ∧ (Value.int .i64 48 = .int .i64 ((dStart h l).last : Int)) ∧ (Value.int .i64 48 = .int .i64 ((dStart h l).i : Int)) ∧ (Value.int .i64 (48 + X0) = .int .i64 (dStart h l).dot) ∧ (Value.int .u32 0 = .int .u32 ((dStart h l).rem : Int)) := by
                  rw [HS0.out.1]; exact ⟨rfl, rfl, rfl, rfl, rfl, rfl, rfl⟩
                have HST := Lib.hid hst
                clear hst
                generalize hS00 : dStart h l = S0 at HG HST
                clear hS00
                go_wp2
                go_loopg [6, 7, 8, 10, 11, 12, 13, 14, 15, 16] 5 (fun m v6 v7 v8 v10 v11 v12 v13 v14 v15 v16 wx => Aside (∃ S : DS, v6 = .int .i64 S.exp ∧ v7 = .int .u64 (S.hi : Int) ∧ v8 = .int .u64 (S.lo : Int) ∧ v10 = .int .i64 (S.last : Int) ∧ v11 = .int .i64 (S.i : Int) ∧ v12 = .int .i64 S.dot ∧ v13 = .int .u32 (S.rem : Int) ∧ v14 = .int .i64 ((5 - m : Nat) : Int) ∧ OutR w.heap.size w G m S wx))
                case atStart =>
                  obtain ⟨a1, a2, a3, a4, a5, a6, a7⟩ := HST.out
                  exact ⟨S0, a1, a2, a3, a4, a5, a6, a7, rfl, HG.out⟩
                case round =>
                  obtain ⟨S, rfl, rfl, rfl, rfl, rfl, rfl, rfl, rfl, hor⟩ := hrel.out
                  clear hrel HG HST
                  have HO := Lib.hid hor
                  have hm5 := hor.m5
                  clear hor
                  rcases Nat.eq_zero_or_pos gk with hm0 | hm0
                  · --[
                    subst hm0
                    have hSG : S = G := HO.out.out
                    go_wp2
                    go_meet
                    have hend := HO.out.ok.endR (by omega) HO.out.at_
                    rw [hSG, ← HGE.out] at hend
                    rw [hSG, ← HGE.out]
                    exact hend
                    --]
                  · obtain ⟨GK, rfl⟩ : ∃ x, x = gk := ⟨gk, rfl⟩
                    obtain ⟨M, hM⟩ : ∃ M : Nat, M = 5 - GK := ⟨_, rfl⟩
                    rw [← hM]
                    have hM5 : M < 5 := by omega
                    have HM := Lib.hid hM
                    clear hM
                    have hdv := divmod S.hi S.lo HO.out.ok.hi HO.out.ok.lo wr
                    obtain ⟨A, hA⟩ : ∃ A, A = (dmQ S.hi S.lo).1 := ⟨_, rfl⟩
                    obtain ⟨B, hB⟩ : ∃ B, B = (dmQ S.hi S.lo).2.1 := ⟨_, rfl⟩
                    obtain ⟨C, hC⟩ : ∃ C, C = (dmQ S.hi S.lo).2.2 := ⟨_, rfl⟩
                    rw [← hA, ← hB, ← hC] at hdv
                    have hdv1 : S.div = ⟨S.exp, A, B, S.last, S.i, S.dot, C, S.row⟩ := by unfold DS.div; rw [← hA, ← hB, ← hC]
                    have hC9 : C < 1000000000 := by rw [hC]; exact dmQ_rem _ _
                    have hin : InR w.heap.size w (S.div.inner 9) (9 * (5 - GK)) 9 S.div wr := ⟨Nat.le_refl _, rfl, by
                      rw [hdv1]
                      exact HO.out.ok.div0 hdv.2.1 hdv.2.2 hC9 HO.out.rem (fun e1 e2 => by rw [hA, hB, hC, e1, e2, dmQ_zero]; exact ⟨rfl, rfl, rfl⟩), by rw [hdv1]; exact hC9, ⟨by rw [hdv1]; exact HO.out.at_.row, HO.out.at_.below⟩⟩
                    have hout : (if (S.div.inner 9).2 then (S.div.inner 9).1 else DS.outer (GK - 1) (S.div.inner 9).1) = G := by
                      have := HO.out.out
                      obtain ⟨q, rfl⟩ : ∃ q, GK = q + 1 := ⟨GK - 1, by omega⟩
                      exact this
                    generalize hR : S.div.inner 9 = R at hin hout
                    have HDV := Lib.hid hdv.1
                    have HIN := Lib.hid hin
                    have HOUT := Lib.hid hout
                    have HD1 := Lib.hid hdv1
                    clear hdv hdv1 hA hB hC hin hout hR HO hC9
                    obtain ⟨K, hK⟩ : ∃ K, K = 9 * (5 - GK) := ⟨_, rfl⟩
                    have HK2 := Lib.hid hK
                    rw [← hK] at HIN
                    clear hK
                    go_upto_block 3 with (first | (go_at_call 115; refine HDV.out.mono ?_; rintro e w9 ⟨rfl, hw9⟩; subst hw9))
                    have HST : Hid ((Value.int .i64 S.exp = .int .i64 S.div.exp) ∧ (Value.int .i64 (S.last : Int) = .int .i64 (S.div.last : Int)) ∧ (Value.int .i64 (S.i : Int) = .int .i64 (S.div.i : Int)) ∧ (Value.int .i64 S.dot = .int .i64 S.div.dot) ∧ (Value.int .u32 (C : Int) = .int .u32 (S.div.rem : Int)) ∧ S.div.hi = A ∧ S.div.lo = B) := Lib.hid (by rw [HD1.out]; exact ⟨rfl, rfl, rfl, rfl, rfl, rfl, rfl⟩)
                    go_wp2
                    go_loopg [6, 10, 11, 12, 13, 15, 16] 9 (fun n v6 v10 v11 v12 v13 v15 v16 wx => Aside (∃ S2 : DS, v6 = .int .i64 S2.exp ∧ v10 = .int .i64 (S2.last : Int) ∧ v11 = .int .i64 (S2.i : Int) ∧ v12 = .int .i64 S2.dot ∧ v13 = .int .u32 (S2.rem : Int) ∧ v15 = .int .i64 ((9 - n : Nat) : Int) ∧ S2.hi = A ∧ S2.lo = B ∧ InR w.heap.size w R K n S2 wx))
                    case atStart =>
                      obtain ⟨a1, a2, a3, a4, a5, a6, a7⟩ := HST.out
                      exact ⟨S.div, a1, a2, a3, a4, a5, rfl, a6, a7, HIN.out⟩
                    case round =>
                      obtain ⟨S2, rfl, rfl, rfl, rfl, rfl, rfl, hA, hB, hir⟩ := hrel.out
                      clear hrel HIN HST HD1 HDV
                      have HI := Lib.hid hir
                      have hn9 := hir.n9
                      clear hir
                      rcases Nat.eq_zero_or_pos gk with hn0 | hn0
                      · --[
                        subst hn0
                        have hR : R = (S2, false) := HI.out.out.symm
                        go_wp2
                        go_roundg (GK - 1)
                        case measure => omega
                        case rel =>
                          have hM := HM.out
                          have hK := HK2.out
                          have ho := HOUT.out
                          rw [hR] at ho
                          refine ⟨S2, rfl, by rw [hA], by rw [hB], rfl, rfl, rfl, rfl, ?_, ⟨by omega, ho, ?_, by have := HI.out.rem; omega, HI.out.at_⟩⟩
                          · congr 1; omega
                          · have := HI.out.ok
                            rw [show K + (9 - 0) = 9 * (5 - (GK - 1)) by omega] at this
                            exact this
                        --]
                      · obtain ⟨e, a, b, la, ii, dd, r, rw⟩ := S2
                        simp only at hA hB
                        subst hA hB
                        obtain ⟨k1, k2, k3, k4, k5, k6, ⟨k7, k7'⟩, ⟨k8, k8'⟩, ⟨k9, k9'⟩⟩ := HI.out.ok
                        simp only at k1 k2 k3 k4 k5 k7 k7' k8 k8' k9 k9'
                        clear k6
                        obtain ⟨Q, hQ⟩ : ∃ Q : Nat, Q = 9 - gk := ⟨_, rfl⟩
                        have hQ9 : Q < 9 := by omega
                        have hQd : decide (((Q : Nat) : Int) < 9) = true := decide_eq_true (by omega)
                        rw [← hQ]
                        have HQ := Lib.hid hQ
                        clear hQ
                        have hK := HK2.out
                        have bE : e ≤ 20000 := by omega
                        clear hK k8'
                        obtain ⟨DEC, hDEC⟩ : ∃ D : Bool, D = decide (DS.dotted ⟨e, a, b, la, ii, dd, r, rw⟩) := ⟨_, rfl⟩
                        have HDD := Lib.hid hDEC
                        clear hDEC
                        go_upto_region 32 with (fail)
                        go_cut [108] from 76 to 172 (fun v wx => v = .bool DEC ∧ wr = wx)
                        case first =>
                            by_cases c1 : ii < 48
                            · by_cases c2 : dd = ii
                              · have f1 : decide (((ii : Nat) : Int) < 48) = true := decide_eq_true (by omega)
                                have f2 : (dd == ((ii : Nat) : Int)) = true := by simp only [beq_iff_eq]; omega
                                have HC := Lib.hid (And.intro c1 (And.intro c2 True.intro))
                                clear c1 c2
                                go_wp2
                                go_meet
                                refine ⟨?_, rfl⟩
                                have hc := HC.out
                                rw [show DEC = true from HDD.out.trans (decide_eq_true (by first | (unfold DS.dotted; simp only; omega) | exact ⟨hc.1, Or.inr ⟨rfl, rfl, hc.2.2.1, hc.2.2.2.1, by first | exact Or.inl hc.2.2.2.2.1 | exact Or.inr hc.2.2.2.2.2.1⟩⟩))]
                              · by_cases c3 : b = 0
                                · by_cases c4 : a = 0
                                  · by_cases c5 : 0 < r
                                    · by_cases c6 : r < 10
                                      · by_cases c7 : dd < (ii : Int) - 6
                                        · have f1 : decide (((ii : Nat) : Int) < 48) = true := decide_eq_true (by omega)
                                          have f2 : (dd == ((ii : Nat) : Int)) = false := by simp only [beq_eq_false_iff_ne, ne_eq]; omega
                                          have f5 : decide ((0 : Nat) < r) = true := decide_eq_true (by omega)
                                          have f6 : decide (((r : Nat) : Int) < 10) = true := decide_eq_true (by omega)
                                          have f7 : decide (dd < ((ii : Nat) : Int) - 6) = true := decide_eq_true (by omega)
                                          have HC := Lib.hid (And.intro c1 (And.intro c2 (And.intro c5 (And.intro c6 (And.intro c7 True.intro)))))
                                          clear c1 c2 c5 c6 c7
                                          subst c3 c4
                                          go_wp2
                                          go_meet
                                          refine ⟨?_, rfl⟩
                                          have hc := HC.out
                                          rw [show DEC = true from HDD.out.trans (decide_eq_true (by first | (unfold DS.dotted; simp only; omega) | exact ⟨hc.1, Or.inr ⟨rfl, rfl, hc.2.2.1, hc.2.2.2.1, by first | exact Or.inl hc.2.2.2.2.1 | exact Or.inr hc.2.2.2.2.2.1⟩⟩))]
                                        · by_cases c8 : 0 < e
                                          · have f1 : decide (((ii : Nat) : Int) < 48) = true := decide_eq_true (by omega)
                                            have f2 : (dd == ((ii : Nat) : Int)) = false := by simp only [beq_eq_false_iff_ne, ne_eq]; omega
                                            have f5 : decide ((0 : Nat) < r) = true := decide_eq_true (by omega)
                                            have f6 : decide (((r : Nat) : Int) < 10) = true := decide_eq_true (by omega)
                                            have f7 : decide (dd < ((ii : Nat) : Int) - 6) = false := decide_eq_false (by omega)
                                            have f8 : decide ((0 : Int) < e) = true := decide_eq_true (by omega)
                                            have HC := Lib.hid (And.intro c1 (And.intro c2 (And.intro c5 (And.intro c6 (And.intro c7 (And.intro c8 True.intro))))))
                                            clear c1 c2 c5 c6 c7 c8
                                            subst c3 c4
                                            go_wp2
                                            go_meet
                                            refine ⟨?_, rfl⟩
                                            have hc := HC.out
                                            rw [show DEC = true from HDD.out.trans (decide_eq_true (by first | (unfold DS.dotted; simp only; omega) | exact ⟨hc.1, Or.inr ⟨rfl, rfl, hc.2.2.1, hc.2.2.2.1, by first | exact Or.inl hc.2.2.2.2.1 | exact Or.inr hc.2.2.2.2.2.1⟩⟩))]
                                          · have f1 : decide (((ii : Nat) : Int) < 48) = true := decide_eq_true (by omega)
                                            have f2 : (dd == ((ii : Nat) : Int)) = false := by simp only [beq_eq_false_iff_ne, ne_eq]; omega
                                            have f5 : decide ((0 : Nat) < r) = true := decide_eq_true (by omega)
                                            have f6 : decide (((r : Nat) : Int) < 10) = true := decide_eq_true (by omega)
                                            have f7 : decide (dd < ((ii : Nat) : Int) - 6) = false := decide_eq_false (by omega)
                                            have f8 : decide ((0 : Int) < e) = false := decide_eq_false (by omega)
                                            have HC := Lib.hid (And.intro c1 (And.intro c2 (And.intro c5 (And.intro c6 (And.intro c7 (And.intro c8 True.intro))))))
                                            clear c1 c2 c5 c6 c7 c8
                                            subst c3 c4
                                            go_wp2
                                            go_meet
                                            refine ⟨?_, rfl⟩
                                            have hc := HC.out
                                            rw [show DEC = false from HDD.out.trans (decide_eq_false (by first | (unfold DS.dotted; simp only; omega) | exact ⟨hc.1, Or.inr ⟨rfl, rfl, hc.2.2.1, hc.2.2.2.1, by first | exact Or.inl hc.2.2.2.2.1 | exact Or.inr hc.2.2.2.2.2.1⟩⟩))]
                                      · have f1 : decide (((ii : Nat) : Int) < 48) = true := decide_eq_true (by omega)
                                        have f2 : (dd == ((ii : Nat) : Int)) = false := by simp only [beq_eq_false_iff_ne, ne_eq]; omega
                                        have f5 : decide ((0 : Nat) < r) = true := decide_eq_true (by omega)
                                        have f6 : decide (((r : Nat) : Int) < 10) = false := decide_eq_false (by omega)
                                        have HC := Lib.hid (And.intro c1 (And.intro c2 (And.intro c5 (And.intro c6 True.intro))))
                                        clear c1 c2 c5 c6
                                        subst c3 c4
                                        go_wp2
                                        go_meet
                                        refine ⟨?_, rfl⟩
                                        have hc := HC.out
                                        rw [show DEC = false from HDD.out.trans (decide_eq_false (by first | (unfold DS.dotted; simp only; omega) | exact ⟨hc.1, Or.inr ⟨rfl, rfl, hc.2.2.1, hc.2.2.2.1, by first | exact Or.inl hc.2.2.2.2.1 | exact Or.inr hc.2.2.2.2.2.1⟩⟩))]
                                    · have f1 : decide (((ii : Nat) : Int) < 48) = true := decide_eq_true (by omega)
                                      have f2 : (dd == ((ii : Nat) : Int)) = false := by simp only [beq_eq_false_iff_ne, ne_eq]; omega
                                      have f5 : decide ((0 : Nat) < r) = false := decide_eq_false (by omega)
                                      have HC := Lib.hid (And.intro c1 (And.intro c2 (And.intro c5 True.intro)))
                                      clear c1 c2 c5
                                      subst c3 c4
                                      go_wp2
                                      go_meet
                                      refine ⟨?_, rfl⟩
                                      have hc := HC.out
                                      rw [show DEC = false from HDD.out.trans (decide_eq_false (by first | (unfold DS.dotted; simp only; omega) | exact ⟨hc.1, Or.inr ⟨rfl, rfl, hc.2.2.1, hc.2.2.2.1, by first | exact Or.inl hc.2.2.2.2.1 | exact Or.inr hc.2.2.2.2.2.1⟩⟩))]
                                  · have f1 : decide (((ii : Nat) : Int) < 48) = true := decide_eq_true (by omega)
                                    have f2 : (dd == ((ii : Nat) : Int)) = false := by simp only [beq_eq_false_iff_ne, ne_eq]; omega
                                    have f4 : (((a : Nat) : Int) == 0) = false := by simp only [beq_eq_false_iff_ne, ne_eq]; omega
                                    have HC := Lib.hid (And.intro c1 (And.intro c2 (And.intro c4 True.intro)))
                                    clear c1 c2 c4
                                    subst c3
                                    go_wp2
                                    go_meet
                                    refine ⟨?_, rfl⟩
                                    have hc := HC.out
                                    rw [show DEC = false from HDD.out.trans (decide_eq_false (by first | (unfold DS.dotted; simp only; omega) | exact ⟨hc.1, Or.inr ⟨rfl, rfl, hc.2.2.1, hc.2.2.2.1, by first | exact Or.inl hc.2.2.2.2.1 | exact Or.inr hc.2.2.2.2.2.1⟩⟩))]
                                · have f1 : decide (((ii : Nat) : Int) < 48) = true := decide_eq_true (by omega)
                                  have f2 : (dd == ((ii : Nat) : Int)) = false := by simp only [beq_eq_false_iff_ne, ne_eq]; omega
                                  have f3 : (((b : Nat) : Int) == 0) = false := by simp only [beq_eq_false_iff_ne, ne_eq]; omega
                                  have HC := Lib.hid (And.intro c1 (And.intro c2 (And.intro c3 True.intro)))
                                  clear c1 c2 c3
                                  go_wp2
                                  go_meet
                                  refine ⟨?_, rfl⟩
                                  have hc := HC.out
                                  rw [show DEC = false from HDD.out.trans (decide_eq_false (by first | (unfold DS.dotted; simp only; omega) | exact ⟨hc.1, Or.inr ⟨rfl, rfl, hc.2.2.1, hc.2.2.2.1, by first | exact Or.inl hc.2.2.2.2.1 | exact Or.inr hc.2.2.2.2.2.1⟩⟩))]
                            · have f1 : decide (((ii : Nat) : Int) < 48) = false := decide_eq_false (by omega)
                              have HC := Lib.hid (And.intro c1 True.intro)
                              clear c1
                              go_wp2
                              go_meet
                              refine ⟨?_, rfl⟩
                              have hc := HC.out
                              rw [show DEC = false from HDD.out.trans (decide_eq_false (by first | (unfold DS.dotted; simp only; omega) | exact ⟨hc.1, Or.inr ⟨rfl, rfl, hc.2.2.1, hc.2.2.2.1, by first | exact Or.inl hc.2.2.2.2.1 | exact Or.inr hc.2.2.2.2.2.1⟩⟩))]
                        case rest =>
                          obtain ⟨rfl, rfl⟩ := hcut
                          as_aux_lemma =>
                            have hOk := HI.out.ok
                            have hkk : K + (9 - gk) < 45 := by have h1 := HK2.out; have h2 := HM.out; omega
                            obtain ⟨e3, la3, J, dd3, rw3, hpt, q1, q2, q3, q4, q5, q6, q7, q8⟩ := hOk.pointE hkk
                            simp only at hpt
                            have HOKR := Lib.hid (And.intro (hOk.round hkk) hkk)
                            have hrd : (⟨e, a, b, la, ii, dd, r, rw⟩ : DS).round = ((⟨e3, a, b, la3, J + 1, dd3, r, rw3⟩ : DS).digit).after (r % 10) := by unfold DS.round; rw [hpt]
                            have hRr : R = (if (⟨e, a, b, la, ii, dd, r, rw⟩ : DS).round.2 then (⟨e, a, b, la, ii, dd, r, rw⟩ : DS).round else DS.inner (gk - 1) (⟨e, a, b, la, ii, dd, r, rw⟩ : DS).round.1) := by
                              have := HI.out.out
                              obtain ⟨q, rfl⟩ : ∃ q, gk = q + 1 := ⟨gk - 1, by omega⟩
                              exact this.symm
                            have hrem : r < 10 ^ gk := HI.out.rem
                            have hr32 : r < 4294967296 := by omega
                            have HAT := Lib.hid HI.out.at_
                            have HRR := Lib.hid (And.intro hRr (And.intro hrd (And.intro hpt hrem)))
                            have b3 : e3 ≤ 20000 := by omega
                            clear hpt hrd hOk hkk hRr hrem q6 HI
                            go_upto_if 108 with (fail)
                            go_cut [6, 10, 11, 12] (fun v6 v10 v11 v12 wx => v6 = .int .i64 e3 ∧ v10 = .int .i64 (la3 : Int) ∧ v11 = .int .i64 ((J : Int) + 1) ∧ v12 = .int .i64 dd3 ∧ Hid (RowS w.heap.size w ⟨e3, a, b, la3, J + 1, dd3, r, rw3⟩ wx))
                            case first =>
                              have hp := HRR.out.2.2.1
                              have hdd := HDD.out
                              cases DEC with
                              | true =>
                                have hdot : DS.dotted ⟨e, a, b, la, ii, dd, r, rw⟩ := of_decide_eq_true hdd.symm
                                have hi48 : ii < 48 := hdot.1
                                unfold DS.point at hp
                                rw [if_pos hdot] at hp
                                simp only [DS.mk.injEq, true_and] at hp
                                obtain ⟨rfl, rfl, hJ, rfl, rfl⟩ := hp
                                obtain ⟨J2, hJ2⟩ : ∃ J2, J2 = J + 1 := ⟨_, rfl⟩
                                have x1 : ((ii : Nat) : Int) - 1 = ((J2 : Nat) : Int) := by omega
                                have x2 : ((J2 : Nat) : Int) - 1 = ((J : Nat) : Int) := by omega
                                obtain ⟨k, hc⟩ := HAT.out.cellAt k1 J2 (by omega)
                                have hfz := HAT.out.frz
                                have hJ48 : J2 < 48 := by omega
                                have HX := Lib.hid (And.intro hJ (And.intro hJ2 hdot))
                                clear hJ hJ2 hdot hdd
                                as_aux_lemma =>
                                  go_wp2
                                  go_meet
                                  refine ⟨rfl, ?_, ?_, rfl, ?_⟩
                                  · have h1 := HX.out.1; have h2 := HX.out.2.1; congr 1; omega
                                  · have h1 := HX.out.1; have h2 := HX.out.2.1; congr 1; omega
                                  · exact Lib.hid (HAT.out.put J2 46 _ rfl (by have h1 := HX.out.1; have h2 := HX.out.2.1; show rw.set (ii - 1) 46 = rw.set J2 46; rw [show ii - 1 = J2 by omega]))
                              | false =>
                                have hdot : ¬ DS.dotted ⟨e, a, b, la, ii, dd, r, rw⟩ := of_decide_eq_false hdd.symm
                                unfold DS.point at hp
                                rw [if_neg hdot] at hp
                                simp only [DS.mk.injEq, true_and] at hp
                                obtain ⟨rfl, rfl, hJ, rfl, rfl⟩ := hp
                                have HX := Lib.hid (And.intro hJ hdot)
                                clear hJ hdot hdd
                                as_aux_lemma =>
                                  go_wp2
                                  go_meet
                                  refine ⟨rfl, rfl, ?_, rfl, ?_⟩
                                  · have h1 := HX.out.1; congr 1; omega
                                  · exact Lib.hid (HAT.out.same rfl)
                            case rest =>
                              obtain ⟨rfl, rfl, rfl, rfl, HR3⟩ := hcut
                              as_aux_lemma =>
                                clear HAT k1 k2 k3 k5 k7 k7' k8 k9 k9' bE HDD
                                obtain ⟨C10, hC10⟩ : ∃ x, x = r % 10 := ⟨_, rfl⟩
                                obtain ⟨D10, hD10⟩ : ∃ x, x = r / 10 := ⟨_, rfl⟩
                                have y1 : ((r : Nat) : Int) % 10 = ((C10 : Nat) : Int) := by omega
                                have y2 : ((r : Nat) : Int) / 10 = ((D10 : Nat) : Int) := by omega
                                have y3 : IntKind.u8.wrap ((C10 : Nat) : Int) = ((C10 : Nat) : Int) := wraps_u8 _ (by omega) (by omega)
                                have bD : D10 < 4294967296 := by omega
                                obtain ⟨c, hcc⟩ : ∃ c : UInt8, c = UInt8.ofNat (48 + C10) := ⟨_, rfl⟩
                                have hct : (c.toNat : Int) = 48 + (C10 : Int) := by rw [hcc]; simp; omega
                                have y4 : IntKind.u8.wrap (48 + ((C10 : Nat) : Int)) = (c.toNat : Int) := (wraps_u8 _ (by omega) (by omega)).trans hct.symm
                                obtain ⟨k, hc⟩ := HR3.out.cellAt q1 J (by omega)
                                have hfz := HR3.out.frz
                                have hJ48 : J < 48 := by omega
                                have hC9 : C10 < 10 := by omega
                                have HCD := Lib.hid (And.intro hC10 (And.intro hD10 (And.intro hcc hct)))
                                clear hC10 hD10 hcc hct hr32
                                go_upto_region 42 with (fail)
                                have HR4 : Hid (RowS w.heap.size w ⟨e3, a, b, la3, J, dd3, D10, rw3.set J c⟩ (wc.setCell ⟨w.heap.size, J, none⟩ (.int .u8 (c.toNat : Int)))) := Lib.hid (HR3.out.put J c _ rfl rfl)
                                generalize wc.setCell ⟨w.heap.size, J, none⟩ (.int .u8 (c.toNat : Int)) = W4 at HR4 ⊢
                                have HS4 : Hid ((⟨e3, a, b, la3, J + 1, dd3, r, rw3⟩ : DS).digit = ⟨e3, a, b, la3, J, dd3, D10, rw3.set J c⟩) := Lib.hid (by
                                  obtain ⟨h1, h2, h3, _⟩ := HCD.out
                                  unfold DS.digit
                                  simp only [Nat.add_sub_cancel]
                                  rw [h2, h3, h1])
                                clear HR3 hc hfz y1 y2 y3
                                obtain ⟨ST1, hST1⟩ : ∃ D : Bool, D = decide (DS.stop1 ⟨e3, a, b, la3, J, dd3, D10, rw3.set J c⟩) := ⟨_, rfl⟩
                                have HST1 := Lib.hid hST1
                                clear hST1
                                go_cut [153] from 130 to 172 (fun v wx => v = .bool ST1 ∧ W4 = wx)
                                case first =>
                                  as_aux_lemma =>
                                    by_cases c1 : b = 0
                                    · by_cases c2 : a = 0
                                      · by_cases c3 : D10 = 0
                                        · by_cases c4 : J = 47
                                          · by_cases c5 : dd3 < (J : Int) - 5
                                            · have f1 : (((b : Nat) : Int) == 0) = true := by simp only [beq_iff_eq]; omega
                                              have f2 : (((a : Nat) : Int) == 0) = true := by simp only [beq_iff_eq]; omega
                                              have f3 : (((D10 : Nat) : Int) == 0) = true := by simp only [beq_iff_eq]; omega
                                              have f4 : (((J : Nat) : Int) == 47) = true := by simp only [beq_iff_eq]; omega
                                              have f5 : decide (dd3 < ((J : Nat) : Int) - 5) = true := decide_eq_true (by omega)
                                              have HC := Lib.hid (And.intro c1 (And.intro c2 (And.intro c3 (And.intro c4 (And.intro c5 True.intro)))))
                                              clear c1 c2 c3 c4 c5
                                              go_wp2
                                              go_meet
                                              refine ⟨?_, rfl⟩
                                              have hc := HC.out
                                              rw [show ST1 = true from HST1.out.trans (decide_eq_true (by unfold DS.stop1; simp only; omega))]
                                            · by_cases c6 : 0 < e3
                                              · have f1 : (((b : Nat) : Int) == 0) = true := by simp only [beq_iff_eq]; omega
                                                have f2 : (((a : Nat) : Int) == 0) = true := by simp only [beq_iff_eq]; omega
                                                have f3 : (((D10 : Nat) : Int) == 0) = true := by simp only [beq_iff_eq]; omega
                                                have f4 : (((J : Nat) : Int) == 47) = true := by simp only [beq_iff_eq]; omega
                                                have f5 : decide (dd3 < ((J : Nat) : Int) - 5) = false := decide_eq_false (by omega)
                                                have f6 : decide ((0 : Int) < e3) = true := decide_eq_true (by omega)
                                                have HC := Lib.hid (And.intro c1 (And.intro c2 (And.intro c3 (And.intro c4 (And.intro c5 (And.intro c6 True.intro))))))
                                                clear c1 c2 c3 c4 c5 c6
                                                go_wp2
                                                go_meet
                                                refine ⟨?_, rfl⟩
                                                have hc := HC.out
                                                rw [show ST1 = true from HST1.out.trans (decide_eq_true (by unfold DS.stop1; simp only; omega))]
                                              · have f1 : (((b : Nat) : Int) == 0) = true := by simp only [beq_iff_eq]; omega
                                                have f2 : (((a : Nat) : Int) == 0) = true := by simp only [beq_iff_eq]; omega
                                                have f3 : (((D10 : Nat) : Int) == 0) = true := by simp only [beq_iff_eq]; omega
                                                have f4 : (((J : Nat) : Int) == 47) = true := by simp only [beq_iff_eq]; omega
                                                have f5 : decide (dd3 < ((J : Nat) : Int) - 5) = false := decide_eq_false (by omega)
                                                have f6 : decide ((0 : Int) < e3) = false := decide_eq_false (by omega)
                                                have HC := Lib.hid (And.intro c1 (And.intro c2 (And.intro c3 (And.intro c4 (And.intro c5 (And.intro c6 True.intro))))))
                                                clear c1 c2 c3 c4 c5 c6
                                                go_wp2
                                                go_meet
                                                refine ⟨?_, rfl⟩
                                                have hc := HC.out
                                                rw [show ST1 = false from HST1.out.trans (decide_eq_false (by unfold DS.stop1; simp only; omega))]
                                          · have f1 : (((b : Nat) : Int) == 0) = true := by simp only [beq_iff_eq]; omega
                                            have f2 : (((a : Nat) : Int) == 0) = true := by simp only [beq_iff_eq]; omega
                                            have f3 : (((D10 : Nat) : Int) == 0) = true := by simp only [beq_iff_eq]; omega
                                            have f4 : (((J : Nat) : Int) == 47) = false := by simp only [beq_eq_false_iff_ne, ne_eq]; omega
                                            have HC := Lib.hid (And.intro c1 (And.intro c2 (And.intro c3 (And.intro c4 True.intro))))
                                            clear c1 c2 c3 c4
                                            go_wp2
                                            go_meet
                                            refine ⟨?_, rfl⟩
                                            have hc := HC.out
                                            rw [show ST1 = false from HST1.out.trans (decide_eq_false (by unfold DS.stop1; simp only; omega))]
                                        · have f1 : (((b : Nat) : Int) == 0) = true := by simp only [beq_iff_eq]; omega
                                          have f2 : (((a : Nat) : Int) == 0) = true := by simp only [beq_iff_eq]; omega
                                          have f3 : (((D10 : Nat) : Int) == 0) = false := by simp only [beq_eq_false_iff_ne, ne_eq]; omega
                                          have HC := Lib.hid (And.intro c1 (And.intro c2 (And.intro c3 True.intro)))
                                          clear c1 c2 c3
                                          go_wp2
                                          go_meet
                                          refine ⟨?_, rfl⟩
                                          have hc := HC.out
                                          rw [show ST1 = false from HST1.out.trans (decide_eq_false (by unfold DS.stop1; simp only; omega))]
                                      · have f1 : (((b : Nat) : Int) == 0) = true := by simp only [beq_iff_eq]; omega
                                        have f2 : (((a : Nat) : Int) == 0) = false := by simp only [beq_eq_false_iff_ne, ne_eq]; omega
                                        have HC := Lib.hid (And.intro c1 (And.intro c2 True.intro))
                                        clear c1 c2
                                        go_wp2
                                        go_meet
                                        refine ⟨?_, rfl⟩
                                        have hc := HC.out
                                        rw [show ST1 = false from HST1.out.trans (decide_eq_false (by unfold DS.stop1; simp only; omega))]
                                    · have f1 : (((b : Nat) : Int) == 0) = false := by simp only [beq_eq_false_iff_ne, ne_eq]; omega
                                      have HC := Lib.hid (And.intro c1 True.intro)
                                      clear c1
                                      go_wp2
                                      go_meet
                                      refine ⟨?_, rfl⟩
                                      have hc := HC.out
                                      rw [show ST1 = false from HST1.out.trans (decide_eq_false (by unfold DS.stop1; simp only; omega))]
                                case rest =>
                                  obtain ⟨rfl, rfl⟩ := hcut
                                  as_aux_lemma =>
                                    have hrd := HRR.out.2.1
                                    rw [HS4.out, ← HCD.out.1] at hrd
                                    have hst1 := HST1.out
                                    cases ST1 with
                                    | true =>
                                      have hs1 : DS.stop1 ⟨e3, a, b, la3, J, dd3, D10, rw3.set J c⟩ := of_decide_eq_true hst1.symm
                                      unfold DS.after at hrd
                                      rw [if_pos hs1] at hrd
                                      have hend := (HOKR.out.1).endR (by have := HOKR.out.2; omega) ((HR4.out).same (S' := (⟨e, a, b, la, ii, dd, r, rw⟩ : DS).round.1) (by rw [hrd]))
                                      have hG := HOUT.out
                                      have hRv : R = (⟨e, a, b, la, ii, dd, r, rw⟩ : DS).round := by rw [HRR.out.1]; rw [hrd]; rfl
                                      rw [hRv, hrd] at hG
                                      rw [hrd] at hend
                                      have HEND := Lib.hid (And.intro hend hG)
                                      clear hend hG hRv hrd hs1 hst1
                                      as_aux_lemma =>
                                        go_wp2
                                        go_meet
                                        have hG := HEND.out.2
                                        rw [HGE.out]
                                        rw [← hG]
                                        exact HEND.out.1
                                    | false =>
                                      have hs1 : ¬ DS.stop1 ⟨e3, a, b, la3, J, dd3, D10, rw3.set J c⟩ := of_decide_eq_false hst1.symm
                                      unfold DS.after at hrd
                                      rw [if_neg hs1] at hrd
                                      obtain ⟨L5, hL5⟩ : ∃ x, x = if C10 = 0 then la3 else J := ⟨_, rfl⟩
                                      have hS5 : (if C10 = 0 then (⟨e3, a, b, la3, J, dd3, D10, rw3.set J c⟩ : DS) else ⟨e3, a, b, J, J, dd3, D10, rw3.set J c⟩) = ⟨e3, a, b, L5, J, dd3, D10, rw3.set J c⟩ := by
                                        rw [hL5]; split <;> rfl
                                      simp only at hrd
                                      rw [hS5] at hrd
                                      have HRD := Lib.hid (And.intro hrd (And.intro hL5 hs1))
                                      clear hrd hL5 hS5 hs1 hst1
                                      go_upto_if 153 with (fail)
                                      go_upto_if 156 with (fail)
                                      go_cut [10] (fun v wx => v = .int .i64 (L5 : Int) ∧ W4 = wx)
                                      case first =>
                                        have hL5 := HRD.out.2.1
                                        have hct := HCD.out.2.2.2
                                        by_cases cz : C10 = 0
                                        · rw [if_pos cz] at hL5
                                          subst hL5
                                          have f1 : ((c.toNat : Int) == 48) = true := by simp only [beq_iff_eq]; omega
                                          have HC := Lib.hid (And.intro cz hct)
                                          clear cz hct
                                          as_aux_lemma =>
                                            go_wp2
                                            go_meet
                                            exact ⟨rfl, rfl⟩
                                        · rw [if_neg cz] at hL5
                                          subst hL5
                                          have f1 : ((c.toNat : Int) == 48) = false := by simp only [beq_eq_false_iff_ne, ne_eq]; omega
                                          have HC := Lib.hid (And.intro cz hct)
                                          clear cz hct
                                          as_aux_lemma =>
                                            go_wp2
                                            go_meet
                                            exact ⟨rfl, rfl⟩
                                      case rest =>
                                        obtain ⟨rfl, rfl⟩ := hcut
                                        as_aux_lemma =>
                                          have bL : J ≤ L5 ∧ L5 ≤ 48 := by have := HRD.out.2.1; split at this <;> omega
                                          obtain ⟨ST2, hST2⟩ : ∃ D : Bool, D = decide (DS.stop2 ⟨e3, a, b, L5, J, dd3, D10, rw3.set J c⟩) := ⟨_, rfl⟩
                                          have HST2 := Lib.hid hST2
                                          clear hST2
                                          go_upto_region 46 with (fail)
                                          go_cut [172] from 158 to 172 (fun v wx => v = .bool ST2 ∧ W4 = wx)
                                          case first =>
                                            as_aux_lemma =>
                                              by_cases c1 : (J : Int) < dd3
                                              · by_cases c2 : b = 0
                                                · by_cases c3 : a = 0
                                                  · by_cases c4 : D10 = 0
                                                    · have f1 : decide (((J : Nat) : Int) < dd3) = true := decide_eq_true (by omega)
                                                      have f2 : (((b : Nat) : Int) == 0) = true := by simp only [beq_iff_eq]; omega
                                                      have f3 : (((a : Nat) : Int) == 0) = true := by simp only [beq_iff_eq]; omega
                                                      have f4 : (((D10 : Nat) : Int) == 0) = true := by simp only [beq_iff_eq]; omega
                                                      have HC := Lib.hid (And.intro c1 (And.intro c2 (And.intro c3 (And.intro c4 True.intro))))
                                                      clear c1 c2 c3 c4
                                                      go_wp2
                                                      go_meet
                                                      refine ⟨?_, rfl⟩
                                                      have hc := HC.out
                                                      rw [show ST2 = true from HST2.out.trans (decide_eq_true (by unfold DS.stop2; simp only; omega))]
                                                    · have f1 : decide (((J : Nat) : Int) < dd3) = true := decide_eq_true (by omega)
                                                      have f2 : (((b : Nat) : Int) == 0) = true := by simp only [beq_iff_eq]; omega
                                                      have f3 : (((a : Nat) : Int) == 0) = true := by simp only [beq_iff_eq]; omega
                                                      have f4 : (((D10 : Nat) : Int) == 0) = false := by simp only [beq_eq_false_iff_ne, ne_eq]; omega
                                                      have HC := Lib.hid (And.intro c1 (And.intro c2 (And.intro c3 (And.intro c4 True.intro))))
                                                      clear c1 c2 c3 c4
                                                      go_wp2
                                                      go_meet
                                                      refine ⟨?_, rfl⟩
                                                      have hc := HC.out
                                                      rw [show ST2 = false from HST2.out.trans (decide_eq_false (by unfold DS.stop2; simp only; omega))]
                                                  · have f1 : decide (((J : Nat) : Int) < dd3) = true := decide_eq_true (by omega)
                                                    have f2 : (((b : Nat) : Int) == 0) = true := by simp only [beq_iff_eq]; omega
                                                    have f3 : (((a : Nat) : Int) == 0) = false := by simp only [beq_eq_false_iff_ne, ne_eq]; omega
                                                    have HC := Lib.hid (And.intro c1 (And.intro c2 (And.intro c3 True.intro)))
                                                    clear c1 c2 c3
                                                    go_wp2
                                                    go_meet
                                                    refine ⟨?_, rfl⟩
                                                    have hc := HC.out
                                                    rw [show ST2 = false from HST2.out.trans (decide_eq_false (by unfold DS.stop2; simp only; omega))]
                                                · have f1 : decide (((J : Nat) : Int) < dd3) = true := decide_eq_true (by omega)
                                                  have f2 : (((b : Nat) : Int) == 0) = false := by simp only [beq_eq_false_iff_ne, ne_eq]; omega
                                                  have HC := Lib.hid (And.intro c1 (And.intro c2 True.intro))
                                                  clear c1 c2
                                                  go_wp2
                                                  go_meet
                                                  refine ⟨?_, rfl⟩
                                                  have hc := HC.out
                                                  rw [show ST2 = false from HST2.out.trans (decide_eq_false (by unfold DS.stop2; simp only; omega))]
                                              · have f1 : decide (((J : Nat) : Int) < dd3) = false := decide_eq_false (by omega)
                                                have HC := Lib.hid (And.intro c1 True.intro)
                                                clear c1
                                                go_wp2
                                                go_meet
                                                refine ⟨?_, rfl⟩
                                                have hc := HC.out
                                                rw [show ST2 = false from HST2.out.trans (decide_eq_false (by unfold DS.stop2; simp only; omega))]
                                          case rest =>
                                            obtain ⟨rfl, rfl⟩ := hcut
                                            as_aux_lemma =>
                                              have hrd : (⟨e, a, b, la, ii, dd, r, rw⟩ : DS).round = (⟨e3, a, b, L5, J, dd3, D10, rw3.set J c⟩, ST2) := by
                                                rw [HST2.out]
                                                have h1 := HRD.out.1
                                                have h2 : DS.stop2 ⟨e3, a, b, L5, J, dd3, D10, rw3.set J c⟩ ↔ DS.stop2 ⟨e3, a, b, la3, J, dd3, D10, rw3.set J c⟩ := Iff.rfl
                                                rw [h1]
                                                congr 1
                                              have hokr := HOKR.out.1
                                              rw [hrd] at hokr
                                              simp only at hokr
                                              have hRv := HRR.out.1
                                              rw [hrd] at hRv
                                              simp only at hRv
                                              have hrow := HR4.out.same (S' := ⟨e3, a, b, L5, J, dd3, D10, rw3.set J c⟩) rfl
                                              cases ST2 with
                                              | true =>
                                                have hend := hokr.endR (by have := HOKR.out.2; omega) hrow
                                                have hG := HOUT.out
                                                rw [hRv] at hG
                                                have HEND := Lib.hid (And.intro hend hG)
                                                clear hend hG hRv hrd hokr hrow
                                                as_aux_lemma =>
                                                  go_wp2
                                                  go_meet
                                                  have hG := HEND.out.2
                                                  rw [HGE.out]
                                                  rw [← hG]
                                                  exact HEND.out.1
                                              | false =>
                                                have HNX := Lib.hid (And.intro hRv (And.intro hokr hrow))
                                                clear hRv hrd hokr hrow
                                                go_wp2
                                                go_roundg (gk - 1)
                                                case measure => omega
                                                case rel =>
                                                  obtain ⟨hRv, hokr, hrow⟩ := HNX.out
                                                  refine ⟨⟨e3, a, b, L5, J, dd3, D10, rw3.set J c⟩, rfl, rfl, rfl, rfl, rfl, ?_, rfl, rfl, ⟨by omega, hRv.symm, ?_, ?_, hrow⟩⟩
                                                  · have := HQ.out; congr 1; omega
                                                  · rw [show K + (9 - (gk - 1)) = K + (9 - gk) + 1 by omega]; exact hokr
                                                  · show D10 < 10 ^ (gk - 1)
                                                    have h1 := HRR.out.2.2.2
                                                    have h2 := HCD.out.2.1
                                                    rw [show gk = (gk - 1) + 1 by omega, Nat.pow_succ] at h1
                                                    omega
              case rest =>
                generalize hG : DS.outer 5 (dStart h l) = G at hcut HTn
                obtain ⟨rfl, rfl, hrow, hbel, hlen, hlast, hexp⟩ := hcut.out
                as_aux_lemma =>
                  clear hcut hG HS0 HOk HR0 HEE HK HTT bHi bLo bX0 bE0
                  obtain ⟨xE, xH, xL, xla, xi, xd, xr, xw⟩ := G
                  simp only at hlen hlast hexp hrow
                  obtain ⟨L1, hL1⟩ : ∃ q, xla = q + 1 := ⟨xla - 1, by omega⟩
                  have HRW : Hid (RowS w.heap.size w ⟨xE, xH, xL, xla, xi, xd, xr, xw⟩ wc) := Lib.hid ⟨hrow, hbel⟩
                  have x1 : ((xla : Nat) : Int) - 1 = ((L1 : Nat) : Int) := by omega
                  obtain ⟨k, hc⟩ := HRW.out.cellAt hlen L1 (by omega)
                  have hfz := HRW.out.frz
                  have hL48 : L1 < 48 := by omega
                  obtain ⟨PP, hPP⟩ : ∃ x, x = 1 - P := ⟨_, rfl⟩
                  obtain ⟨A, hA⟩ : ∃ x, x = L1 + PP := ⟨_, rfl⟩
                  have xA : ((L1 : Nat) : Int) + ((PP : Nat) : Int) = ((A : Nat) : Int) := by omega
                  have HXA := Lib.hid xA
                  have hA48 : A ≤ 48 := by omega
                  have hP1 : PP ≤ 1 := by omega
                  have HRW5 : Hid (RowS w.heap.size w ⟨xE, xH, xL, xla, xi, xd, xr, xw.set L1 45⟩ (wc.setCell ⟨w.heap.size, L1, none⟩ (.int .u8 45))) := Lib.hid (HRW.out.put L1 45 _ rfl rfl)
                  rw [← hPP] at HTn ⊢
                  have HL1 := Lib.hid hL1
                  have HXW : Hid (IntKind.i64.wrap (((L1 : Nat) : Int) + ((PP : Nat) : Int)) = ((L1 : Nat) : Int) + ((PP : Nat) : Int)) := Lib.hid (by rw [IntKind.wrap_i64]; omega)
                  have HA := Lib.hid hA
                  clear hrow hbel hPP hlast hL1 xA hA
                  have hexp : -9223372036854775808 ≤ xE ∧ xE ≤ 9223372036854775807 := by omega
                  go_upto_region 49 with (fail)
                  generalize wc.setCell ⟨w.heap.size, L1, none⟩ (.int .u8 45) = W5 at HRW5 ⊢
                  clear hc hfz x1
                  obtain ⟨X, hX⟩ : ∃ x : ByteArray, x = ⟨((xw.set L1 45).drop A).toArray⟩ := ⟨_, rfl⟩
                  obtain ⟨ad, hsl, hcv⟩ := rowText (z := ((L1 : Nat) : Int) + ((PP : Nat) : Int)) HXA.out HRW5.out.row (by simp [hlen]) hA48
                  simp only at hcv
                  rw [← hX] at hcv
                  have HB5 := Lib.hid HRW5.out.below
                  have HCV := Lib.hid hcv
                  have HXS : Hid (X.size = 48 - A) := Lib.hid (by rw [hX]; simp [ByteArray.size, hlen])
                  have HIS : Hid ((⟨(itoa xE).toArray⟩ : ByteArray).size ≤ 21) := Lib.hid (itoa_size xE hexp)
                  have hT5 : Tabs W5 := HT.out.bel HB5.out HT.out.big
                  have HTP : Hid (Lib.TabIs Tryz.prog W5.drew "internal/strconv.uint64pow10" .u64 Lib.pow10Tab) := Lib.hid (hT5.bel (below_drew (Below.refl _ _)) hT5.big).pow
                  have HGL : Hid (w.heap.size < W5.heap.size) := Lib.hid (lt_of_heap HRW5.out.row)
                  have hTx : T = if 0 < xE then (X ++ ⟨#[69, 43]⟩) ++ ⟨(itoa xE).toArray⟩ else if xE < 0 then (X ++ ⟨#[69]⟩) ++ ⟨(itoa xE).toArray⟩ else X := by
                    rw [HTn.out]
                    unfold dEnd
                    simp only [HL1.out, Nat.add_sub_cancel]
                    rw [← HA.out, hX]
                    have e1 : (⟨#[69, 43]⟩ : ByteArray) = ⟨([69, 43] : List UInt8).toArray⟩ := rfl
                    have e2 : (⟨#[69]⟩ : ByteArray) = ⟨([69] : List UInt8).toArray⟩ := rfl
                    split
                    · rw [e1, bcat, bcat, List.append_assoc]
                    · split
                      · rw [e2, bcat, bcat, List.append_assoc]
                      · rw [List.append_nil]
                  clear hcv hX HRW HRW5 hT5 HTn
                  by_cases hp : 0 < xE
                  · have f1 : decide ((0 : Int) < xE) = true := decide_eq_true hp
                    rw [if_pos hp] at hTx
                    have HTE := Lib.hid hTx
                    clear hp hTx
                    go_upto_region 50 with (fail)
                    refine wp_region_noPanic ?_
                    refine wp_region_held_drew (S := fun W => Below W5.heap.size W5 W) (by kernel_rfl) (below_drew (Below.refl _ _)) (fun hHeld => ?_)
                    refine takeH (i := 0) (some 180) ?vr501 rfl rfl (by kernel_rfl) (by kernel_rfl) (by kernel_rfl) (fun _ _ _ h => h) (by rfl) ?yr502 (by assumption) ?rr503
                    case yr502 => intro W hSw; go_simp; all_goals with_reducible rfl
                    try simp only [Act.put, List.setIfInBounds_toArray, List.set_cons_zero, List.set_cons_succ]
                    refine takeH (i := 1) (some 181) ?vr504 rfl rfl (by kernel_rfl) (by kernel_rfl) (by kernel_rfl) (fun _ _ _ h => h) (by rfl) ?yr505 (by assumption) ?rr506
                    case yr505 => intro W hSw; go_simp; all_goals with_reducible rfl
                    try simp only [Act.put, List.setIfInBounds_toArray, List.set_cons_zero, List.set_cons_succ]
                    refine takeH (i := 2) (some 182) (.int .i64 (((L1 : Nat) : Int) + ((PP : Nat) : Int))) rfl rfl (by kernel_rfl) (by kernel_rfl) (by kernel_rfl) (fun _ _ _ h => h) (by rfl) (fun W hSw => by go_simp; first | exact HXW.out | rw [HXW.out]) (by assumption) ?_
                    try simp only [Act.put, List.setIfInBounds_toArray, List.set_cons_zero, List.set_cons_succ]
                    refine takeH (i := 3) (some 183) (.slice (some ad) (48 - A) (48 - A)) rfl rfl (by kernel_rfl) (by kernel_rfl) (by kernel_rfl) (fun _ _ _ h => h) (by rfl) (fun W hSw => by go_simp) (by assumption) ?_
                    try simp only [Act.put, List.setIfInBounds_toArray, List.set_cons_zero, List.set_cons_succ]
                    refine takeH (i := 4) (some 184) (.string X) rfl rfl (by kernel_rfl) (by kernel_rfl) (by kernel_rfl) (fun _ _ _ h => h) (by rfl) (fun W hSw => x_conv rfl rfl (HCV.out W (hSw.block _ HGL.out))) (by assumption) ?_
                    try simp only [Act.put, List.setIfInBounds_toArray, List.set_cons_zero, List.set_cons_succ]
                    refine takeH (i := 5) (some 185) (.string (X ++ ⟨#[69, 43]⟩)) rfl rfl (by kernel_rfl) (by kernel_rfl) (by kernel_rfl) (fun _ _ _ h => h) (by rfl) (fun W hSw => x_cat rfl rfl rfl (by rw [HXS.out]; show 48 - A + _ ≤ _; simp [ByteArray.size]; omega)) (by assumption) ?_
                    try simp only [Act.put, List.setIfInBounds_toArray, List.set_cons_zero, List.set_cons_succ]
                    refine takeH (i := 6) (some 186) ?vr507 rfl rfl (by kernel_rfl) (by kernel_rfl) (by kernel_rfl) (fun _ _ _ h => h) (by rfl) ?yr508 (by assumption) ?rr509
                    case yr508 => intro W hSw; go_simp; all_goals with_reducible rfl
                    try simp only [Act.put, List.setIfInBounds_toArray, List.set_cons_zero, List.set_cons_succ]
                    refine wpAnyH_ready (rs := [7]) (by kernel_rfl) (by simp) ?_
                    refine (AllReadyH.cons rfl (fun K hK => ?_) AllReadyH.nil)
                    go_simp
                    refine (Tryz.strconv_Itoa xE hexp.1 hexp.2 _ HTP.out).mono ?_
                    rintro e9 w9 ⟨rfl, k9, os9, hw9⟩
                    have hb9 : Below W5.heap.size W5 w9 := by rw [hw9]; exact (below_drew (Below.refl _ _)).trans (show Below W5.heap.size W5.drew _ from below_grow (w := W5.drew) k9 os9)
                    clear hw9
                    refine hK.out _ _ (hb9) (fun hHeld => ?_)
                    clear hK K
                    try simp only [Act.put, List.setIfInBounds_toArray, List.set_cons_zero, List.set_cons_succ]
                    refine takeH (i := 8) (some 188) (.string ((X ++ ⟨#[69, 43]⟩) ++ ⟨(itoa xE).toArray⟩)) rfl rfl (by kernel_rfl) (by kernel_rfl) (by kernel_rfl) (fun _ _ _ h => h) (by rfl) (fun W hSw => x_cat rfl rfl rfl (by have h1 := HIS.out; have h2 := HXS.out; have e : (⟨#[69, 43]⟩ : ByteArray).size ≤ 2 := (by decide); rw [ByteArray.size_append]; omega)) (by assumption) ?_
                    try simp only [Act.put, List.setIfInBounds_toArray, List.set_cons_zero, List.set_cons_succ]
                    refine takeH (i := 9) (some 4) ?vr5010 rfl rfl (by kernel_rfl) (by kernel_rfl) (by kernel_rfl) (fun _ _ _ h => h) (by rfl) ?yr5011 (by assumption) ?rr5012
                    case yr5011 => intro W hSw; go_simp; all_goals with_reducible rfl
                    try simp only [Act.put, List.setIfInBounds_toArray, List.set_cons_zero, List.set_cons_succ]
                    refine wpAnyH_done (by kernel_rfl) ?_ _
                    refine NoPanic.normal ?_
                    have HB9 := Lib.hid hb9
                    go_wp2
                    go_ret
                    exact ⟨by rw [HTE.out]; rfl, HB5.out.trans (HB9.out.mono HB5.out.size)⟩
                  · by_cases hn : xE < 0
                    · have f1 : decide ((0 : Int) < xE) = false := decide_eq_false hp
                      have f2 : decide (xE < 0) = true := decide_eq_true hn
                      rw [if_neg hp, if_pos hn] at hTx
                      have HTE := Lib.hid hTx
                      clear hp hn hTx
                      go_upto_region 52 with (fail)
                      refine wp_region_noPanic ?_
                      refine wp_region_held_drew (S := fun W => Below W5.heap.size W5 W) (by kernel_rfl) (below_drew (Below.refl _ _)) (fun hHeld => ?_)
                      refine takeH (i := 0) (some 191) ?vr5213 rfl rfl (by kernel_rfl) (by kernel_rfl) (by kernel_rfl) (fun _ _ _ h => h) (by rfl) ?yr5214 (by assumption) ?rr5215
                      case yr5214 => intro W hSw; go_simp; all_goals with_reducible rfl
                      try simp only [Act.put, List.setIfInBounds_toArray, List.set_cons_zero, List.set_cons_succ]
                      refine takeH (i := 1) (some 192) ?vr5216 rfl rfl (by kernel_rfl) (by kernel_rfl) (by kernel_rfl) (fun _ _ _ h => h) (by rfl) ?yr5217 (by assumption) ?rr5218
                      case yr5217 => intro W hSw; go_simp; all_goals with_reducible rfl
                      try simp only [Act.put, List.setIfInBounds_toArray, List.set_cons_zero, List.set_cons_succ]
                      refine takeH (i := 2) (some 193) (.int .i64 (((L1 : Nat) : Int) + ((PP : Nat) : Int))) rfl rfl (by kernel_rfl) (by kernel_rfl) (by kernel_rfl) (fun _ _ _ h => h) (by rfl) (fun W hSw => by go_simp; first | exact HXW.out | rw [HXW.out]) (by assumption) ?_
                      try simp only [Act.put, List.setIfInBounds_toArray, List.set_cons_zero, List.set_cons_succ]
                      refine takeH (i := 3) (some 194) (.slice (some ad) (48 - A) (48 - A)) rfl rfl (by kernel_rfl) (by kernel_rfl) (by kernel_rfl) (fun _ _ _ h => h) (by rfl) (fun W hSw => by go_simp) (by assumption) ?_
                      try simp only [Act.put, List.setIfInBounds_toArray, List.set_cons_zero, List.set_cons_succ]
                      refine takeH (i := 4) (some 195) (.string X) rfl rfl (by kernel_rfl) (by kernel_rfl) (by kernel_rfl) (fun _ _ _ h => h) (by rfl) (fun W hSw => x_conv rfl rfl (HCV.out W (hSw.block _ HGL.out))) (by assumption) ?_
                      try simp only [Act.put, List.setIfInBounds_toArray, List.set_cons_zero, List.set_cons_succ]
                      refine takeH (i := 5) (some 196) (.string (X ++ ⟨#[69]⟩)) rfl rfl (by kernel_rfl) (by kernel_rfl) (by kernel_rfl) (fun _ _ _ h => h) (by rfl) (fun W hSw => x_cat rfl rfl rfl (by rw [HXS.out]; show 48 - A + _ ≤ _; simp [ByteArray.size]; omega)) (by assumption) ?_
                      try simp only [Act.put, List.setIfInBounds_toArray, List.set_cons_zero, List.set_cons_succ]
                      refine takeH (i := 6) (some 197) ?vr5219 rfl rfl (by kernel_rfl) (by kernel_rfl) (by kernel_rfl) (fun _ _ _ h => h) (by rfl) ?yr5220 (by assumption) ?rr5221
                      case yr5220 => intro W hSw; go_simp; all_goals with_reducible rfl
                      try simp only [Act.put, List.setIfInBounds_toArray, List.set_cons_zero, List.set_cons_succ]
                      refine wpAnyH_ready (rs := [7]) (by kernel_rfl) (by simp) ?_
                      refine (AllReadyH.cons rfl (fun K hK => ?_) AllReadyH.nil)
                      go_simp
                      refine (Tryz.strconv_Itoa xE hexp.1 hexp.2 _ HTP.out).mono ?_
                      rintro e9 w9 ⟨rfl, k9, os9, hw9⟩
                      have hb9 : Below W5.heap.size W5 w9 := by rw [hw9]; exact (below_drew (Below.refl _ _)).trans (show Below W5.heap.size W5.drew _ from below_grow (w := W5.drew) k9 os9)
                      clear hw9
                      refine hK.out _ _ (hb9) (fun hHeld => ?_)
                      clear hK K
                      try simp only [Act.put, List.setIfInBounds_toArray, List.set_cons_zero, List.set_cons_succ]
                      refine takeH (i := 8) (some 199) (.string ((X ++ ⟨#[69]⟩) ++ ⟨(itoa xE).toArray⟩)) rfl rfl (by kernel_rfl) (by kernel_rfl) (by kernel_rfl) (fun _ _ _ h => h) (by rfl) (fun W hSw => x_cat rfl rfl rfl (by have h1 := HIS.out; have h2 := HXS.out; have e : (⟨#[69]⟩ : ByteArray).size ≤ 2 := (by decide); rw [ByteArray.size_append]; omega)) (by assumption) ?_
                      try simp only [Act.put, List.setIfInBounds_toArray, List.set_cons_zero, List.set_cons_succ]
                      refine takeH (i := 9) (some 4) ?vr5222 rfl rfl (by kernel_rfl) (by kernel_rfl) (by kernel_rfl) (fun _ _ _ h => h) (by rfl) ?yr5223 (by assumption) ?rr5224
                      case yr5223 => intro W hSw; go_simp; all_goals with_reducible rfl
                      try simp only [Act.put, List.setIfInBounds_toArray, List.set_cons_zero, List.set_cons_succ]
                      refine wpAnyH_done (by kernel_rfl) ?_ _
                      refine NoPanic.normal ?_
                      have HB9 := Lib.hid hb9
                      go_wp2
                      go_ret
                      exact ⟨by rw [HTE.out]; rfl, HB5.out.trans (HB9.out.mono HB5.out.size)⟩
                    · have f1 : decide ((0 : Int) < xE) = false := decide_eq_false hp
                      have f2 : decide (xE < 0) = false := decide_eq_false hn
                      rw [if_neg hp, if_neg hn] at hTx
                      have HTE := Lib.hid hTx
                      have hcv5 := HCV.out W5 rfl
                      clear hp hn hTx
                      go_wp2
                      go_ret
                      exact ⟨by rw [HTE.out]; rfl, HB5.out⟩

end Go.Proofs.YtpkfdbhpmhahaaaGreatDoor
