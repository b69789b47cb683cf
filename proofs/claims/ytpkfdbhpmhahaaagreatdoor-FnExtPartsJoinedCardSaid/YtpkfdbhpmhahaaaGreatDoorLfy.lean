/- Leaves of the writer: base64's text. -/
import Derived.Test.YtpkfdbhpmhahaaaGreatDoorLfx
import Derived.Laws.BitsAllLaws
namespace Go.Proofs.YtpkfdbhpmhahaaaGreatDoor
open Go Go.RowKit Go.Lib
set_option linter.unusedSimpArgs false
set_option linter.unusedVariables false

theorem EncAt.range {w : World} {g : Nat} (h : EncAt w g) : w.rangeAt g 0 (byteCells alphaS.data.toList) := fun j v hv => by
  rw [byteCells_get] at hv
  obtain ⟨b, hb, rfl⟩ := Option.map_eq_some_iff.1 hv
  obtain ⟨hj, rfl⟩ := List.getElem?_eq_some_iff.1 hb
  rw [Nat.zero_add, h.low j hj]
  unfold alpha
  rw [List.getElem?_eq_getElem hj]
  rfl
theorem info179 : (Tryz.prog.info? 179).map (·.size) = some 64 := by kernel_rfl

def b64c (k : Nat) : UInt8 := (alphaS.data.toList[k]?).getD 0
theorem alpha_b64c (k : Nat) : alpha k = (b64c k).toNat := rfl
def b64v (a b c : Nat) : Nat := (a * 65536 ||| b * 256) ||| c
def b64 : List UInt8 → List UInt8
  | a :: b :: c :: r => b64c (b64v a.toNat b.toNat c.toNat / 262144 % 64) :: b64c (b64v a.toNat b.toNat c.toNat / 4096 % 64) :: b64c (b64v a.toNat b.toNat c.toNat / 64 % 64) :: b64c (b64v a.toNat b.toNat c.toNat % 64) :: b64 r
  | [a, b] => [b64c (b64v a.toNat b.toNat 0 / 262144 % 64), b64c (b64v a.toNat b.toNat 0 / 4096 % 64), b64c (b64v a.toNat b.toNat 0 / 64 % 64), 61]
  | [a] => [b64c (b64v a.toNat 0 0 / 262144 % 64), b64c (b64v a.toNat 0 0 / 4096 % 64), 61, 61]
  | [] => []
theorem b64_length : ∀ l : List UInt8, (b64 l).length = (l.length + 2) / 3 * 4
  | a :: b :: c :: r => by
    have := b64_length r
    simp only [b64, List.length_cons, this]
    omega
  | [a, b] => by simp [b64]
  | [a] => by simp [b64]
  | [] => by simp [b64]
theorem b64v_lt (a b c : Nat) (ha : a < 256) (hb : b < 256) (hc : c < 256) : b64v a b c < 16777216 := by
  unfold b64v
  exact Nat.or_lt_two_pow (n := 24) (Nat.or_lt_two_pow (n := 24) (by omega) (by omega)) (by omega)

theorem and63 (x : Nat) (h : x < 18446744073709551616) : bits .and .u64 (x : Int) 63 = ((x % 64 : Nat) : Int) := by
  have := u64_and_nat x 63 h (by decide)
  rw [show (63 : Nat) = 2 ^ 6 - 1 by decide, Nat.and_two_pow_sub_one_eq_mod] at this
  exact this

theorem v3 (a b c : UInt8) : bits .or .u64 (bits .or .u64 (IntKind.u64.wrap (IntKind.u64.wrap (a.toNat : Int) * 65536)) (IntKind.u64.wrap (IntKind.u64.wrap (b.toNat : Int) * 256))) (IntKind.u64.wrap (c.toNat : Int)) = ((b64v a.toNat b.toNat c.toNat : Nat) : Int) := by
  have ha := a.toNat_lt
  have hb := b.toNat_lt
  have hc := c.toNat_lt
  have e1 : IntKind.u64.wrap (IntKind.u64.wrap (a.toNat : Int) * 65536) = ((a.toNat * 65536 : Nat) : Int) := by rw [IntKind.wrap_u64, IntKind.wrap_u64]; omega
  have e2 : IntKind.u64.wrap (IntKind.u64.wrap (b.toNat : Int) * 256) = ((b.toNat * 256 : Nat) : Int) := by rw [IntKind.wrap_u64, IntKind.wrap_u64]; omega
  have e3 : IntKind.u64.wrap (c.toNat : Int) = ((c.toNat : Nat) : Int) := by rw [IntKind.wrap_u64]; omega
  rw [e1, e2, e3, u64_or_nat _ _ (by omega) (by omega), u64_or_nat _ _ (Nat.lt_of_lt_of_le (Nat.or_lt_two_pow (n := 24) (by omega) (by omega)) (by decide)) (by omega)]
  rfl

theorem v1 (a : UInt8) : IntKind.u64.wrap (IntKind.u64.wrap (a.toNat : Int) * 65536) = ((b64v a.toNat 0 0 : Nat) : Int) := by
  have ha := a.toNat_lt
  unfold b64v
  rw [IntKind.wrap_u64, IntKind.wrap_u64]
  simp only [Nat.zero_mul, Nat.or_zero]
  omega
theorem v2 (a b : UInt8) : bits .or .u64 (IntKind.u64.wrap (IntKind.u64.wrap (a.toNat : Int) * 65536)) (IntKind.u64.wrap (IntKind.u64.wrap (b.toNat : Int) * 256)) = ((b64v a.toNat b.toNat 0 : Nat) : Int) := by
  have ha := a.toNat_lt
  have hb := b.toNat_lt
  have e1 : IntKind.u64.wrap (IntKind.u64.wrap (a.toNat : Int) * 65536) = ((a.toNat * 65536 : Nat) : Int) := by rw [IntKind.wrap_u64, IntKind.wrap_u64]; omega
  have e2 : IntKind.u64.wrap (IntKind.u64.wrap (b.toNat : Int) * 256) = ((b.toNat * 256 : Nat) : Int) := by rw [IntKind.wrap_u64, IntKind.wrap_u64]; omega
  rw [e1, e2, u64_or_nat _ _ (by omega) (by omega)]
  unfold b64v
  rw [Nat.or_zero]
/-- The head of the loop: P is written; l is to come, from place q of block gs on. -/
structure BR (L : List UInt8) (g gd gs N : Nat) (w0 : World) (P : List UInt8) (q : Nat) (l : List UInt8) (wx : World) : Prop where
  row : ∃ D : Array Value, wx.heap[gd]? = some (.cells D 5 (0, 0)) ∧ D.size = N ∧ D.toList.take P.length = byteCells P ∧ (∀ v ∈ D.toList, ∃ k : Int, v = .int .u8 k)
  text : P ++ b64 l = b64 L
  src : wx.rangeAt gs q (byteCells l)
  enc : EncAt wx g
  below : Below gd w0 wx
theorem BR.cellAt {L P l : List UInt8} {g gd gs N q : Nat} {w0 wx : World} (h : BR L g gd gs N w0 P q l wx) (i : Nat) (hi : i < N) : ∃ k : Int, wx.cell? ⟨gd, i, none⟩ = some (.int .u8 k) := by
  obtain ⟨D, hD, hs, _, hk⟩ := h.row
  obtain ⟨k, e⟩ := hk (D[i]'(by omega)) (by simp)
  exact ⟨k, by simp [World.cell?, hD, show i < D.size by omega, e]⟩
theorem BR.frz {L P l : List UInt8} {g gd gs N q : Nat} {w0 wx : World} (h : BR L g gd gs N w0 P q l wx) (o : Nat) : wx.frozen? ⟨gd, o, none⟩ = false := by
  obtain ⟨D, hD, _⟩ := h.row
  simp [World.frozen?, hD]
theorem BR.srcAt {L P l : List UInt8} {g gd gs N q : Nat} {w0 wx : World} (h : BR L g gd gs N w0 P q l wx) (i : Nat) (hi : i < l.length) : wx.cell? ⟨gs, q + i, none⟩ = some (.int .u8 ((l[i]'hi).toNat : Int)) :=
  h.src i _ (by rw [byteCells_get, List.getElem?_eq_getElem hi]; rfl)
theorem BR.dn {L P l : List UInt8} {g gd gs N q : Nat} {w0 wx : World} (h : BR L g gd gs N w0 P q l wx) (n : Nat) : BR L g gd gs N w0 P q l (wx.drewN n) :=
  ⟨h.row, h.text, h.src, ⟨h.enc.1, h.enc.2⟩, below_dn h.below n⟩
/-- One byte more is written: the text's equation is let stand. -/
structure BW (g gd gs N : Nat) (w0 : World) (P : List UInt8) (wx : World) : Prop where
  row : ∃ D : Array Value, wx.heap[gd]? = some (.cells D 5 (0, 0)) ∧ D.size = N ∧ D.toList.take P.length = byteCells P ∧ (∀ v ∈ D.toList, ∃ k : Int, v = .int .u8 k)
  below : Below gd w0 wx
theorem BR.bw {L P l : List UInt8} {g gd gs N q : Nat} {w0 wx : World} (h : BR L g gd gs N w0 P q l wx) : BW g gd gs N w0 P wx := ⟨h.row, h.below⟩
theorem BW.put {P : List UInt8} {g gd gs N p : Nat} {w0 wx : World} (h : BW g gd gs N w0 P wx) (c : UInt8) (k : Int) (hk : k = (c.toNat : Int)) (hp : p = P.length) (hN : P.length < N) : BW g gd gs N w0 (P ++ [c]) (wx.setCell ⟨gd, p, none⟩ (.int .u8 k)) := by
  subst hp hk
  obtain ⟨D, hD, hs, ht, hkk⟩ := h.row
  refine ⟨⟨_, heap_set hD, by simpa using hs, ?_, fun v hv => ?_⟩, h.below.trans ⟨rfl, rfl, rfl, by simp [World.setCell], fun k hk => heap_set_ne (Nat.ne_of_lt hk)⟩⟩
  · have hl : P.length < D.toList.length := by simp; omega
    rw [List.length_append, List.length_cons, List.length_nil, Nat.zero_add, Array.toList_setIfInBounds, List.take_succ_eq_append_getElem (by simpa using hl), List.take_set_of_le (Nat.le_refl _), ht]
    simp [Lib.byteCells]
  · rw [Array.toList_setIfInBounds] at hv
    rcases List.mem_or_eq_of_mem_set hv with h1 | h1
    · exact hkk v h1
    · exact ⟨_, h1⟩
theorem BW.br {L P P0 l l0 : List UInt8} {g gd gs N q q0 : Nat} {w0 wx wy : World} (h : BR L g gd gs N w0 P0 q0 l0 wx) (h2 : BW g gd gs N w0 P wy) (hg : g < gd) (hgs : gs < gd) (hq : q0 + (l0.length - l.length) = q) (hl : l0.drop (l0.length - l.length) = l) (ht : P ++ b64 l = b64 L) : BR L g gd gs N w0 P q l wy := by
  have k : ∀ i, i < gd → wy.heap[i]? = wx.heap[i]? := fun i hi => (h2.below.block i hi).trans (h.below.block i hi).symm
  refine ⟨h2.row, ht, fun j v hv => ?_, h.enc.kept (k g hg), h2.below⟩
  have h3 := h.src ((l0.length - l.length) + j) v (by
    rw [← hl] at hv
    rw [byteCells_get] at hv ⊢
    rw [← List.getElem?_drop]
    exact hv)
  rw [← hq, Nat.add_assoc]
  exact (World.cell?_of_block (a := ⟨gs, q0 + ((l0.length - l.length) + j), none⟩) (k gs hgs)).trans h3

/-- What Encode leaves. -/
def BPost (L : List UInt8) (gd N : Nat) (w0 : World) (e : Ending) (w' : World) : Prop := e = .returned (.tuple #[]) ∧ (∃ D : Array Value, w'.heap[gd]? = some (.cells D 5 (0, 0)) ∧ D.size = N ∧ D.toList.take (b64 L).length = byteCells (b64 L)) ∧ Below gd w0 w'

theorem b64_end {L P l : List UInt8} {g gd gs N q : Nat} {w0 wx wy : World} (hN : N = (b64 L).length) (h : BR L g gd gs N w0 P q l wx) {Q : List UInt8} (hw : BW g gd gs N w0 Q wy) (hQ : Q = P ++ b64 l) : BPost L gd N w0 (.returned (.tuple #[])) wy := by
  obtain ⟨D, h1, h2, h3, _⟩ := hw.row
  rw [hQ, h.text] at h3
  exact ⟨rfl, ⟨D, h1, h2, h3⟩, hw.below⟩

set_option maxRecDepth 100000 in
set_option maxHeartbeats 8000000 in
theorem encode (L : List UInt8) (hL : L.length ≤ 1000000) (g gd gs o cs : Nat) (w : World) (hg : g < gd) (hgs : gs < gd) (he : EncAt w g) (hsrc : w.rangeAt gs o (byteCells L)) (hrow : ∃ D : Array Value, w.heap[gd]? = some (.cells D 5 (0, 0)) ∧ D.size = (b64 L).length ∧ (∀ v ∈ D.toList, ∃ k : Int, v = .int .u8 k)) (hcs : L.length ≤ cs) (hne : L ≠ []) :
    Calls Tryz.prog 108 #[.pointer (some ⟨g, 0, none⟩), .slice (some ⟨gd, 0, none⟩) (b64 L).length (b64 L).length, .slice (some ⟨gs, o, none⟩) L.length cs] w (BPost L gd (b64 L).length w) := by
  obtain ⟨N, hN⟩ : ∃ N, N = (b64 L).length := ⟨_, rfl⟩
  have hN2 := b64_length L
  rw [← hN] at hN2 hrow ⊢
  have hb0 : BR L g gd gs N w [] o L w := by
    obtain ⟨D, hD, hs, hk⟩ := hrow
    exact ⟨⟨D, hD, hs, by simp [Lib.byteCells], hk⟩, rfl, hsrc, he, Below.refl _ _⟩
  have h0 : decide (L.length = 0) = false := decide_eq_false (fun e => hne (List.eq_nil_of_length_eq_zero e))
  have h00 : ¬ (L.length = 0) := fun e => hne (List.eq_nil_of_length_eq_zero e)
  have hz0 : (((L.length : Nat) : Int) == 0) = false := by simp only [beq_eq_false_iff_ne, ne_eq]; omega
  have HB := Lib.hid hb0
  have HNN := Lib.hid hN
  clear hb0 hrow he hsrc hne hN hN2 h0 h00
  go_enter Tryz.func108, Tryz.ntmps108
  go_upto_region 2 with (first | ((with_reducible refine wpList_at (some 15) ?_); refine wpList_load_mid rfl 179 (.tmp 14) rfl g 0 rfl (byteCells alphaS.data.toList) _ HB.out.enc.range Tryz.underlying179 rfl (by rw [info179]; rfl) ?_))
  try simp only [Act.put, List.setIfInBounds_toArray, List.set_cons_zero, List.set_cons_succ]
  go_wp2
  trace_state
  go_loopg [1, 2, 6] L.length (fun m v1 v2 v6 wx => Aside (∃ (P l : List UInt8) (q M c1 : Nat) (a1 a2 : Option Addr), m = l.length ∧ v1 = .slice a1 M M ∧ v2 = .slice a2 l.length c1 ∧ P.length + M = N ∧ M = (b64 l).length ∧ (l ≠ [] → a1 = some ⟨gd, P.length, none⟩ ∧ a2 = some ⟨gs, q, none⟩) ∧ l.length ≤ c1 ∧ l.length ≤ L.length ∧ BR L g gd gs N w P q l wx))
  case atStart => exact ⟨[], L, o, N, cs, _, _, rfl, rfl, rfl, by simp, HNN.out, fun _ => ⟨rfl, rfl⟩, hcs, Nat.le_refl _, HB.out⟩
  case round =>
    obtain ⟨P, l, q, M, c1, a1, a2, hgk, rfl, rfl, hPM, hM, had, hc1, hlL, hbr⟩ := hrel.out
    clear hrel HB
    have HB := Lib.hid hbr
    clear hbr
    match l, had with
    | [], had =>
      clear had
      go_wp2
      refine bodyPost_ret (results_none rfl _ _ _) rfl ?_
      exact b64_end HNN.out HB.out HB.out.bw (by simp [b64])
    | [a], had =>
      obtain ⟨rfl, rfl⟩ := had (by simp)
      have hc0 := HB.out.srcAt 0 (by simp)
      simp only [List.getElem_cons_zero, Nat.add_zero] at hc0
      have hM4 : M = 4 := by rw [hM]; simp [b64]
      have el : ([a] : List UInt8).length = 1 := rfl
      rw [el] at hc1 hlL ⊢
      clear had hM el
      subst hM4
      go_upto_region 15 with (fail)
      rw [v1]
      have hVb := b64v_lt a.toNat 0 0 a.toNat_lt (by decide) (by decide)
      obtain ⟨V, hV⟩ : ∃ V, V = b64v a.toNat 0 0 := ⟨_, rfl⟩
      rw [← hV] at hVb ⊢
      have HV := Lib.hid hV
      have hB2 := HB.out
      clear HB hV hc0
      have hfz := hB2.frz
      obtain ⟨k0, hd0⟩ := hB2.cellAt (P.length) (by omega)
      obtain ⟨k1, hd1⟩ := hB2.cellAt (P.length + 1) (by omega)
      obtain ⟨k2, hd2⟩ := hB2.cellAt (P.length + 2) (by omega)
      obtain ⟨k3, hd3⟩ := hB2.cellAt (P.length + 3) (by omega)
      obtain ⟨x0, hx0⟩ : ∃ x, x = V / 262144 % 64 := ⟨_, rfl⟩
      have ex0 : bits .and .u64 (((V : Nat) : Int) / 262144) 63 = ((x0 : Nat) : Int) := by
        have := and63 (V / 262144) (by omega)
        rw [hx0, ← this]
        rfl
      have hy0 : x0 < 64 := by omega
      have hz0 : (0 : Int) ≤ (x0 : Nat) := by omega
      have hw0 : ((x0 : Nat) : Int) < 64 := by omega
      have ha0 := hB2.enc.low x0 hy0
      have HX0 := Lib.hid hx0
      clear hx0 hy0
      obtain ⟨x1, hx1⟩ : ∃ x, x = V / 4096 % 64 := ⟨_, rfl⟩
      have ex1 : bits .and .u64 (((V : Nat) : Int) / 4096) 63 = ((x1 : Nat) : Int) := by
        have := and63 (V / 4096) (by omega)
        rw [hx1, ← this]
        rfl
      have hy1 : x1 < 64 := by omega
      have hz1 : (0 : Int) ≤ (x1 : Nat) := by omega
      have hw1 : ((x1 : Nat) : Int) < 64 := by omega
      have ha1 := hB2.enc.low x1 hy1
      have HX1 := Lib.hid hx1
      clear hx1 hy1
      have htop := hB2.enc.top
      have HB := Lib.hid hB2
      have hgne : ¬ g = gd := by omega
      have hgne2 : ¬ gd = g := by omega
      clear hB2 hVb
      go_wp2
      go_end0
      have hw1 := HB.out.bw.put (b64c x0) (alpha x0 : Nat) rfl rfl (by omega)
      have hw2 := hw1.put (b64c x1) (alpha x1 : Nat) rfl (p := P.length + 1) (by simp) (by simp; omega)
      have hw3 := hw2.put 61 61 rfl (p := P.length + 2) (by simp) (by simp; omega)
      have hw4 := hw3.put 61 61 rfl (p := P.length + 3) (by simp) (by simp; omega)
      exact b64_end HNN.out HB.out hw4 (by rw [HX0.out, HX1.out, HV.out]; simp [b64])
    | [a, b], had =>
      obtain ⟨rfl, rfl⟩ := had (by simp)
      have hc0 := HB.out.srcAt 0 (by simp)
      have hc1' := HB.out.srcAt 1 (by simp)
      simp only [List.getElem_cons_zero, List.getElem_cons_succ, Nat.add_zero] at hc0 hc1'
      have hM4 : M = 4 := by rw [hM]; simp [b64]
      have el : ([a, b] : List UInt8).length = 2 := rfl
      rw [el] at hc1 hlL ⊢
      clear had hM el
      subst hM4
      go_upto_region 21 with (fail)
      go_quiet (fail)
      rw [v2]
      have hVb := b64v_lt a.toNat b.toNat 0 a.toNat_lt b.toNat_lt (by decide)
      obtain ⟨V, hV⟩ : ∃ V, V = b64v a.toNat b.toNat 0 := ⟨_, rfl⟩
      rw [← hV] at hVb ⊢
      have HV := Lib.hid hV
      have hB2 := HB.out.dn nq
      generalize wr.drewN nq = wq at hB2 ⊢
      clear HB hV hc0 hc1'
      have hfz := hB2.frz
      obtain ⟨k0, hd0⟩ := hB2.cellAt (P.length) (by omega)
      obtain ⟨k1, hd1⟩ := hB2.cellAt (P.length + 1) (by omega)
      obtain ⟨k2, hd2⟩ := hB2.cellAt (P.length + 2) (by omega)
      obtain ⟨k3, hd3⟩ := hB2.cellAt (P.length + 3) (by omega)
      obtain ⟨x0, hx0⟩ : ∃ x, x = V / 262144 % 64 := ⟨_, rfl⟩
      have ex0 : bits .and .u64 (((V : Nat) : Int) / 262144) 63 = ((x0 : Nat) : Int) := by
        have := and63 (V / 262144) (by omega)
        rw [hx0, ← this]
        rfl
      have hy0 : x0 < 64 := by omega
      have hz0 : (0 : Int) ≤ (x0 : Nat) := by omega
      have hw0 : ((x0 : Nat) : Int) < 64 := by omega
      have ha0 := hB2.enc.low x0 hy0
      have HX0 := Lib.hid hx0
      clear hx0 hy0
      obtain ⟨x1, hx1⟩ : ∃ x, x = V / 4096 % 64 := ⟨_, rfl⟩
      have ex1 : bits .and .u64 (((V : Nat) : Int) / 4096) 63 = ((x1 : Nat) : Int) := by
        have := and63 (V / 4096) (by omega)
        rw [hx1, ← this]
        rfl
      have hy1 : x1 < 64 := by omega
      have hz1 : (0 : Int) ≤ (x1 : Nat) := by omega
      have hw1 : ((x1 : Nat) : Int) < 64 := by omega
      have ha1 := hB2.enc.low x1 hy1
      have HX1 := Lib.hid hx1
      clear hx1 hy1
      obtain ⟨x2, hx2⟩ : ∃ x, x = V / 64 % 64 := ⟨_, rfl⟩
      have ex2 : bits .and .u64 (((V : Nat) : Int) / 64) 63 = ((x2 : Nat) : Int) := by
        have := and63 (V / 64) (by omega)
        rw [hx2, ← this]
        rfl
      have hy2 : x2 < 64 := by omega
      have hz2 : (0 : Int) ≤ (x2 : Nat) := by omega
      have hw2 : ((x2 : Nat) : Int) < 64 := by omega
      have ha2 := hB2.enc.low x2 hy2
      have HX2 := Lib.hid hx2
      clear hx2 hy2
      have htop := hB2.enc.top
      have HB := Lib.hid hB2
      have hgne : ¬ g = gd := by omega
      have hgne2 : ¬ gd = g := by omega
      clear hB2 hVb
      go_wp2
      go_end0
      have hw1 := HB.out.bw.put (b64c x0) (alpha x0 : Nat) rfl rfl (by omega)
      have hw2 := hw1.put (b64c x1) (alpha x1 : Nat) rfl (p := P.length + 1) (by simp) (by simp; omega)
      have hw3 := hw2.put (b64c x2) (alpha x2 : Nat) rfl (p := P.length + 2) (by simp) (by simp; omega)
      have hw4 := hw3.put 61 61 rfl (p := P.length + 3) (by simp) (by simp; omega)
      exact b64_end HNN.out HB.out hw4 (by rw [HX0.out, HX1.out, HX2.out, HV.out]; simp [b64])
    | a :: b :: c :: r, had =>
      obtain ⟨rfl, rfl⟩ := had (by simp)
      have hc0 := HB.out.srcAt 0 (by simp)
      have hc1' := HB.out.srcAt 1 (by simp)
      have hc2 := HB.out.srcAt 2 (by simp)
      simp only [List.getElem_cons_zero, List.getElem_cons_succ, Nat.add_zero] at hc0 hc1' hc2
      have hMl : 4 ≤ M := by rw [hM, b64_length]; simp; omega
      obtain ⟨k0, hd0⟩ := HB.out.cellAt P.length (by omega)
      obtain ⟨k1, hd1⟩ := HB.out.cellAt (P.length + 1) (by omega)
      obtain ⟨k2, hd2⟩ := HB.out.cellAt (P.length + 2) (by omega)
      obtain ⟨k3, hd3⟩ := HB.out.cellAt (P.length + 3) (by omega)
      have el : (a :: b :: c :: r).length = r.length + 3 := rfl
      obtain ⟨R, hR⟩ : ∃ R, R = r.length := ⟨_, rfl⟩
      rw [el, ← hR] at hc1 hlL ⊢
      have HMM := Lib.hid hM
      have HRR := Lib.hid hR
      clear had hM el hR
      go_wp2
      go_quiet (fail)
      rw [v3]
      have hVb := b64v_lt a.toNat b.toNat c.toNat a.toNat_lt b.toNat_lt c.toNat_lt
      obtain ⟨V, hV⟩ : ∃ V, V = b64v a.toNat b.toNat c.toNat := ⟨_, rfl⟩
      rw [← hV] at hVb ⊢
      have HV := Lib.hid hV
      have hB2 := HB.out.dn nq
      generalize wr.drewN nq = wq at hB2 ⊢
      clear HB hV hc0 hc1' hc2 hd0 hd1 hd2 hd3
      have hfz := hB2.frz
      obtain ⟨k0, hd0⟩ := hB2.cellAt P.length (by omega)
      obtain ⟨k1, hd1⟩ := hB2.cellAt (P.length + 1) (by omega)
      obtain ⟨k2, hd2⟩ := hB2.cellAt (P.length + 2) (by omega)
      obtain ⟨k3, hd3⟩ := hB2.cellAt (P.length + 3) (by omega)
      obtain ⟨x0, hx0⟩ : ∃ x, x = V / 262144 % 64 := ⟨_, rfl⟩
      have ex0 : bits .and .u64 (((V : Nat) : Int) / 262144) 63 = ((x0 : Nat) : Int) := by
        have := and63 (V / 262144) (by omega)
        rw [hx0, ← this]
        rfl
      have hy0 : x0 < 64 := by omega
      have hz0 : (0 : Int) ≤ (x0 : Nat) := by omega
      have hw0 : ((x0 : Nat) : Int) < 64 := by omega
      have ha0 := hB2.enc.low x0 hy0
      have HX0 := Lib.hid hx0
      clear hx0 hy0
      obtain ⟨x1, hx1⟩ : ∃ x, x = V / 4096 % 64 := ⟨_, rfl⟩
      have ex1 : bits .and .u64 (((V : Nat) : Int) / 4096) 63 = ((x1 : Nat) : Int) := by
        have := and63 (V / 4096) (by omega)
        rw [hx1, ← this]
        rfl
      have hy1 : x1 < 64 := by omega
      have hz1 : (0 : Int) ≤ (x1 : Nat) := by omega
      have hw1 : ((x1 : Nat) : Int) < 64 := by omega
      have ha1 := hB2.enc.low x1 hy1
      have HX1 := Lib.hid hx1
      clear hx1 hy1
      obtain ⟨x2, hx2⟩ : ∃ x, x = V / 64 % 64 := ⟨_, rfl⟩
      have ex2 : bits .and .u64 (((V : Nat) : Int) / 64) 63 = ((x2 : Nat) : Int) := by
        have := and63 (V / 64) (by omega)
        rw [hx2, ← this]
        rfl
      have hy2 : x2 < 64 := by omega
      have hz2 : (0 : Int) ≤ (x2 : Nat) := by omega
      have hw2 : ((x2 : Nat) : Int) < 64 := by omega
      have ha2 := hB2.enc.low x2 hy2
      have HX2 := Lib.hid hx2
      clear hx2 hy2
      obtain ⟨x3, hx3⟩ : ∃ x, x = V % 64 := ⟨_, rfl⟩
      have ex3 : bits .and .u64 (((V : Nat) : Int)) 63 = ((x3 : Nat) : Int) := by
        have := and63 (V) (by omega)
        rw [hx3, ← this]
      have hy3 : x3 < 64 := by omega
      have hz3 : (0 : Int) ≤ (x3 : Nat) := by omega
      have hw3 : ((x3 : Nat) : Int) < 64 := by omega
      have ha3 := hB2.enc.low x3 hy3
      have HX3 := Lib.hid hx3
      clear hx3 hy3
      have HB := Lib.hid hB2
      have hgne : ¬ g = gd := by omega
      have hgne2 : ¬ gd = g := by omega
      have hM0 : (0 : Int) < (M : Nat) := by omega
      have hM1 : (1 : Int) < (M : Nat) := by omega
      have hM2 : (2 : Int) < (M : Nat) := by omega
      have hM3 : (3 : Int) < (M : Nat) := by omega
      have hM4 : (4 : Int) ≤ (M : Nat) := by omega
      have hc13 : (3 : Int) ≤ (c1 : Nat) := by omega
      clear hB2 hVb
      go_upto_region 9 with (fail)
      have hw1 := HB.out.bw.put (b64c x0) (alpha x0 : Nat) rfl rfl (by omega)
      have hw2 := hw1.put (b64c x1) (alpha x1 : Nat) rfl (p := P.length + 1) (by simp) (by simp; omega)
      have hw3 := hw2.put (b64c x2) (alpha x2 : Nat) rfl (p := P.length + 2) (by simp) (by simp; omega)
      have hw4 := hw3.put (b64c x3) (alpha x3 : Nat) rfl (p := P.length + 3) (by simp) (by simp; omega)
      clear hw1 hw2 hw3
      generalize World.setCell _ _ _ = wz at hw4 ⊢
      have HW4 := Lib.hid hw4
      have hlen : (P ++ [b64c x0] ++ [b64c x1] ++ [b64c x2] ++ [b64c x3]).length = P.length + 4 := by simp
      have ht : (P ++ [b64c x0] ++ [b64c x1] ++ [b64c x2] ++ [b64c x3]) ++ b64 r = b64 L := by
        have h5 := HB.out.text
        rw [← h5]
        simp [b64, HX0.out, HX1.out, HX2.out, HX3.out, HV.out]
      have HTX := Lib.hid (And.intro ht hlen)
      clear ht hlen
      clear hw4 ha0 ha1 ha2 ha3 hd0 hd1 hd2 hd3 hfz
      go_wp2
      all_goals
        have hRR := HRR.out
        subst hRR
        have hMM : M = (b64 r).length + 4 := by have := HMM.out; simpa [b64] using this
        have hbl := b64_length r
        go_roundg r.length
        case measure => omega
        case rel =>
          refine ⟨P ++ [b64c x0] ++ [b64c x1] ++ [b64c x2] ++ [b64c x3], r, q + 3, _, _, _, _, rfl, rfl, rfl, ?_, ?_, fun hr => ?_, ?_, ?_, BW.br HB.out HW4.out hg hgs (by simp only [List.length_cons]; omega) (by rw [show (a :: b :: c :: r).length - r.length = 3 from by simp only [List.length_cons]; omega]; rfl) HTX.out.1⟩
          · rw [HTX.out.2]; omega
          · omega
          · have : 0 < r.length := List.length_pos_iff.2 hr
            rw [HTX.out.2]
            first | exact ⟨rfl, rfl⟩ | (exfalso; omega)
          · omega
          · omega

end Go.Proofs.YtpkfdbhpmhahaaaGreatDoor
