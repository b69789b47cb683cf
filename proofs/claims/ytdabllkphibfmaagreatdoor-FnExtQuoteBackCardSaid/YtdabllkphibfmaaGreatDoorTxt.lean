/- What a text quoted in a style is read as: plain, no program in sight. -/
import Derived.Test.YtdabllkphibfmaaGreatDoorPFnExtStringsx7
import Derived.Test.YtdabllkphibfmaaGreatDoorRune
import Derived.Lib.Hide
import Derived.Test.YtdabllkphibfmaaGreatDoorTokP
namespace Go.Proofs.YtdabllkphibfmaaGreatDoor
open Go Go.RowKit PFnExtStrings Go.Proofs.YtdabllkphibfmaaGreatDoorW.PrintWords

/-- Numbers, as bytes. -/
def nb (e : List Int) : List UInt8 := e.map fun n => UInt8.ofNat n.toNat

theorem nb_append (a b : List Int) : nb (a ++ b) = nb a ++ nb b := List.map_append

theorem nb_bytes (l : List UInt8) : nb (l.map fun b => (b.toNat : Int)) = l := by
  unfold nb
  rw [List.map_map]
  conv => rhs; rw [← List.map_id l]
  apply List.map_congr_left
  intro a _
  simp

/-- The style's place is no place beyond it. -/
def AtOk (code : List Int) (p : Int) : Prop := 0 ≤ p ∧ code.length ≤ 1000000

theorem next_ok {code : List Int} {p : Int} (h : AtOk code p) (b1 b2 : Bool) (m : Int) (hm : m ≠ 0) : ∃ r p', spec_extStyle_next.f code p b1 b2 m = some (r, p', b1, b2) ∧ AtOk code p' := by
  obtain ⟨h0, h1⟩ := h
  unfold spec_extStyle_next.f
  by_cases hp : p ≥ (code.length : Int)
  · rw [if_pos hp]
    exact ⟨0, p, rfl, h0, h1⟩
  · rw [if_neg hp, wrap64_id (x := p + 1) (by omega) (by omega), wrap64_id (x := p + 1 - 1) (by omega) (by omega), if_pos (by omega), if_pos (by omega), if_neg hm]
    exact ⟨_, p + 1, rfl, by omega, h1⟩

theorem hexU : ∀ d : Fin 16, hexv (UInt8.ofNat (bt (⟨#[48, 49, 50, 51, 52, 53, 54, 55, 56, 57, 65, 66, 67, 68, 69, 70]⟩ : ByteArray) (d.val : Int)).toNat) = some d.val := by decide +kernel
theorem hexL : ∀ d : Fin 16, hexv (UInt8.ofNat (bt (⟨#[48, 49, 50, 51, 52, 53, 54, 55, 56, 57, 97, 98, 99, 100, 101, 102]⟩ : ByteArray) (d.val : Int)).toNat) = some d.val := by decide +kernel
theorem hexU' (x : Int) (h0 : 0 ≤ x) (h1 : x < 16) : hexv (UInt8.ofNat (bt (⟨#[48, 49, 50, 51, 52, 53, 54, 55, 56, 57, 65, 66, 67, 68, 69, 70]⟩ : ByteArray) x).toNat) = some x.toNat := by
  have := hexU ⟨x.toNat, by omega⟩
  simp only [Int.toNat_of_nonneg h0] at this
  exact this
theorem hexL' (x : Int) (h0 : 0 ≤ x) (h1 : x < 16) : hexv (UInt8.ofNat (bt (⟨#[48, 49, 50, 51, 52, 53, 54, 55, 56, 57, 97, 98, 99, 100, 101, 102]⟩ : ByteArray) x).toNat) = some x.toNat := by
  have := hexL ⟨x.toNat, by omega⟩
  simp only [Int.toNat_of_nonneg h0] at this
  exact this

/-- A unit is six bytes that are read as it. -/
theorem unit_ok {code : List Int} {p : Int} (h : AtOk code p) (b1 b2 : Bool) (c : Nat) (hc : c < 65536) : ∃ y p', spec_extStyle_unit.f code p b1 b2 c = some (y, p', b1, b2) ∧ AtOk code p' ∧ y.length = 6 ∧ ∃ d3 d2 d1 d0, nb y = [92, 117, d3, d2, d1, d0] ∧ u4 d3 d2 d1 d0 = some c := by
  obtain ⟨r, p', hn, hp'⟩ := next_ok h b1 b2 2 (by decide)
  unfold spec_extStyle_unit.f
  rw [hn, Option.bind_some]
  rw [i64_and15 (x := (c : Int) / 4096) (by omega) (by omega), i64_and15 (x := (c : Int) / 256) (by omega) (by omega), i64_and15 (x := (c : Int) / 16) (by omega) (by omega), i64_and15 (x := (c : Int)) (by omega) (by omega)]
  have hsum : ((c : Int) / 4096 % 16).toNat * 4096 + ((c : Int) / 256 % 16).toNat * 256 + ((c : Int) / 16 % 16).toNat * 16 + ((c : Int) % 16).toNat = c := by omega
  by_cases hr : r = 1
  · rw [if_pos hr]
    repeat rw [if_pos (by omega)]
    refine ⟨_, p', rfl, hp', rfl, _, _, _, _, rfl, ?_⟩
    unfold u4
    rw [hexU' _ (by omega) (by omega), hexU' _ (by omega) (by omega), hexU' _ (by omega) (by omega), hexU' _ (by omega) (by omega)]
    simp only [hsum]
  · rw [if_neg hr]
    repeat rw [if_pos (by omega)]
    refine ⟨_, p', rfl, hp', rfl, _, _, _, _, rfl, ?_⟩
    unfold u4
    rw [hexL' _ (by omega) (by omega), hexL' _ (by omega) (by omega), hexL' _ (by omega) (by omega), hexL' _ (by omega) (by omega)]
    simp only [hsum]

/-- Some bytes are read as others. -/
def ReadAs (e s : List UInt8) : Prop := ∃ n, n ≤ e.length ∧ ∀ f acc tail, strRun (f + n) acc (e ++ tail) = strRun f (acc ++ s) tail

theorem ReadAs.nil : ReadAs [] [] := ⟨0, Nat.le_refl _, fun f acc tail => by simp⟩
theorem ReadAs.append {e e' s s' : List UInt8} (h : ReadAs e s) (h' : ReadAs e' s') : ReadAs (e ++ e') (s ++ s') := by
  obtain ⟨n, hn, h⟩ := h
  obtain ⟨n', hn', h'⟩ := h'
  refine ⟨n' + n, by rw [List.length_append]; omega, fun f acc tail => ?_⟩
  rw [← Nat.add_assoc, List.append_assoc, h, h', List.append_assoc]
theorem ReadAs.step {e s : List UInt8} (h0 : 1 ≤ e.length) (h : ∀ tail, strStep (e ++ tail) = .more s tail) : ReadAs e s :=
  ⟨1, h0, fun f acc tail => by rw [strRun, h]⟩
theorem ReadAs.plain (c : UInt8) (h1 : c ≠ 34) (h2 : c ≠ 92) : ReadAs [c] [c] := .step (by simp) fun tail => by
  simp [strStep, h1, h2]
theorem ReadAs.plains (l : List UInt8) (h : ∀ c ∈ l, c ≠ 34 ∧ c ≠ 92) : ReadAs l l := by
  induction l with
  | nil => exact .nil
  | cons c l ih =>
    have := (ReadAs.plain c (h c (by simp)).1 (h c (by simp)).2).append (ih fun x hx => h x (by simp [hx]))
    simpa using this
theorem ReadAs.esc (c x : UInt8) (h : unesc c = some x) (hc : c ≠ 117) : ReadAs [92, c] [x] := .step (by simp) fun tail => by
  simp [strStep, hc, h]
theorem ReadAs.unit (d3 d2 d1 d0 : UInt8) (c : Nat) (h : u4 d3 d2 d1 d0 = some c) (hc : c < 55296 ∨ 57344 ≤ c) : ReadAs [92, 117, d3, d2, d1, d0] (runeB c) := .step (by simp) fun tail => by
  simp [strStep, strU, h, hc]
theorem ReadAs.two (d3 d2 d1 d0 e3 e2 e1 e0 : UInt8) (c m : Nat) (h : u4 d3 d2 d1 d0 = some c) (h' : u4 e3 e2 e1 e0 = some m) (hc : 55296 ≤ c ∧ c < 56320) (hm : 56320 ≤ m ∧ m < 57344) : ReadAs ([92, 117, d3, d2, d1, d0] ++ [92, 117, e3, e2, e1, e0]) (runeB ((c - 55296) * 1024 + (m - 56320) + 65536)) := .step (by simp) fun tail => by
  have h1 : ¬ (c < 55296 ∨ 57344 ≤ c) := by omega
  have h2 : c < 56320 ∧ 56320 ≤ m ∧ m < 57344 := by omega
  simp only [strStep, strU, h, h', h1, h2, List.cons_append, List.nil_append]
  simp

theorem extract_list (x : ByteArray) (i n : Nat) : (x.extract i (i + n)).data.toList = (x.data.toList.drop i).take n := by
  simp [List.take_drop]

theorem encodeRuneZ_big (m : Int) (h : 128 ≤ m) : ∀ c ∈ Lib.encodeRuneZ m, 128 ≤ c ∧ c < 256 := by
  intro c hc
  unfold Lib.encodeRuneZ at hc
  rw [if_neg (by omega)] at hc
  split at hc
  · simp only [List.mem_cons, List.not_mem_nil, or_false] at hc; omega
  split at hc
  · simp only [List.mem_cons, List.not_mem_nil, or_false] at hc; omega
  split at hc
  · simp only [List.mem_cons, List.not_mem_nil, or_false] at hc; omega
  · simp only [List.mem_cons, List.not_mem_nil, or_false] at hc; omega

theorem runeB_big (m : Nat) (h : 128 ≤ m) : ∀ c ∈ runeB m, c ≠ 34 ∧ c ≠ 92 := by
  intro c hc
  unfold runeB Lib.encodeRune at hc
  obtain ⟨x, hx, rfl⟩ := List.mem_map.1 hc
  have := encodeRuneZ_big m (by omega) x hx
  have e : (x.toNat.toUInt8).toNat = x.toNat := by
    rw [Nat.toUInt8_eq, UInt8.toNat_ofNat']
    omega
  constructor
  · intro h2
    rw [h2] at e
    have : (34 : UInt8).toNat = 34 := rfl
    omega
  · intro h2
    rw [h2] at e
    have : (92 : UInt8).toNat = 92 := rfl
    omega

theorem runeB_len (m : Nat) : 1 ≤ (runeB m).length ∧ (runeB m).length ≤ 4 := by
  have := Lib.encodeRuneZ_length m
  simpa [runeB, Lib.encodeRune] using this

theorem wrap_sum (i L : Nat) (h : i ≤ 100000) (h2 : L ≤ 100000) : wrap64 ((i : Int) + (L : Int)) = ((i + L : Nat) : Int) := by
  rw [wrap64_id (by omega) (by omega)]; simp
theorem wrap_hi (m : Nat) (h : 65536 ≤ m) (h2 : m < 1114112) : wrap64 ((m : Int) - 65536) = ((m - 65536 : Nat) : Int) := by
  rw [wrap64_id (by omega) (by omega)]; omega
theorem wrap_hi2 (m : Nat) (h2 : m < 1114112) : wrap64 (55296 + ((m - 65536 : Nat) : Int) / 1024) = ((55296 + (m - 65536) / 1024 : Nat) : Int) := by
  rw [wrap64_id (by omega) (by omega)]; omega
theorem wrap_lo (m : Nat) (h2 : m < 1114112) : wrap64 (56320 + bits .and .i64 ((m - 65536 : Nat) : Int) 1023) = ((56320 + (m - 65536) % 1024 : Nat) : Int) := by
  rw [i64_and1023 (by omega) (by omega), wrap64_id (by omega) (by omega)]; omega
theorem ctl_ok (m : Nat) (h : m = 8 ∨ m = 9 ∨ m = 10 ∨ m = 12 ∨ m = 13) : ReadAs (nb [92, bt (⟨#[98, 116, 110, 46, 102, 114]⟩ : ByteArray) (wrap64 ((m : Int) - 8))]) (runeB m) := by
  have e : ∀ m : Nat, m < 128 → runeB m = [m.toUInt8] := runeB_one
  rcases h with rfl | rfl | rfl | rfl | rfl
  · have h1 : nb [92, bt (⟨#[98, 116, 110, 46, 102, 114]⟩ : ByteArray) (wrap64 (((8 : Nat) : Int) - 8))] = [92, 98] := by decide +kernel
    rw [h1, e 8 (by decide)]; exact .esc 98 8 (by decide) (by decide)
  · have h1 : nb [92, bt (⟨#[98, 116, 110, 46, 102, 114]⟩ : ByteArray) (wrap64 (((9 : Nat) : Int) - 8))] = [92, 116] := by decide +kernel
    rw [h1, e 9 (by decide)]; exact .esc 116 9 (by decide) (by decide)
  · have h1 : nb [92, bt (⟨#[98, 116, 110, 46, 102, 114]⟩ : ByteArray) (wrap64 (((10 : Nat) : Int) - 8))] = [92, 110] := by decide +kernel
    rw [h1, e 10 (by decide)]; exact .esc 110 10 (by decide) (by decide)
  · have h1 : nb [92, bt (⟨#[98, 116, 110, 46, 102, 114]⟩ : ByteArray) (wrap64 (((12 : Nat) : Int) - 8))] = [92, 102] := by decide +kernel
    rw [h1, e 12 (by decide)]; exact .esc 102 12 (by decide) (by decide)
  · have h1 : nb [92, bt (⟨#[98, 116, 110, 46, 102, 114]⟩ : ByteArray) (wrap64 (((13 : Nat) : Int) - 8))] = [92, 114] := by decide +kernel
    rw [h1, e 13 (by decide)]; exact .esc 114 13 (by decide) (by decide)
theorem wrap_ctl (m : Nat) (h : m = 8 ∨ m = 9 ∨ m = 10 ∨ m = 12 ∨ m = 13) : 0 ≤ wrap64 ((m : Int) - 8) ∧ wrap64 ((m : Int) - 8) < 6 := by
  rw [wrap64_id (by omega) (by omega)]; omega

/-- One round of the text's loop. -/
theorem text_round {code : List Int} {p : Int} (h : AtOk code p) (b1 b2 : Bool) (x : ByteArray) (x5 : List Int) (i : Nat) (hi : i < x.size) (hsz : x.size ≤ 1000) (hx5 : x5.length ≤ 100000) (m : Nat)
    (hm : m < 55296 ∨ (57344 ≤ m ∧ m < 1114112)) (hr : ∀ k, spec_extRune.f (k + 10) (x.extract i x.size) = some (((runeB m).length : Int), (m : Int))) (ht : (x.data.toList.drop i).take (runeB m).length = runeB m) :
    ∃ e p' d, AtOk code p' ∧ e.length ≤ 12 ∧ ReadAs (nb e) (runeB m) ∧ ∀ k, spec_extStyle_text.l0 (k + 10 + d) x x5 i code p b1 b2 = spec_extStyle_text.l0 (k + 10) x (x5 ++ e) ((i + (runeB m).length : Nat) : Int) code p' b1 b2 := by
  obtain ⟨r, p1, hn, hp1⟩ := next_ok h b1 b2 8 (by decide)
  have hL := runeB_len m
  have hL2 : i + (runeB m).length ≤ x.size := by
    have h1 := congrArg List.length ht
    rw [List.length_take, List.length_drop, data_length] at h1
    omega
  obtain ⟨L, hLe⟩ : ∃ L, L = (runeB m).length := ⟨_, rfl⟩
  rw [← hLe] at hL hL2 hr ht ⊢
  have hw := Lib.hid (wrap_sum i L (by omega) (by omega))
  have hl0 : ∀ k, spec_extStyle_text.l0 (k + 12) x x5 i code p b1 b2 = spec_extStyle_text.j2 (k + 10) x x5 i L m r (if r = 1 then decide ((m : Int) < 65536) else false) code p1 b1 b2 := by
    intro k
    rw [spec_extStyle_text.l0, if_pos (by omega), if_pos (by omega), if_pos (by omega), Int.toNat_natCast, hr (k + 1), Option.bind_some]
    dsimp only
    rw [if_neg (by omega), spec_extStyle_text.j1, hn, Option.bind_some]
    dsimp only
    by_cases hr1 : r = 1
    · rw [if_pos hr1, if_pos hr1]
    · rw [if_neg hr1, if_neg hr1]
  clear hn hr
  by_cases hu : r = 1 ∧ m < 65536
  · -- a unit
    obtain ⟨y, p', hy, hp', hyl, d3, d2, d1, d0, hnb, hu4⟩ := unit_ok hp1 b1 b2 m hu.2
    refine ⟨y, p', 3, hp', by omega, by rw [hnb]; exact .unit _ _ _ _ _ hu4 (by omega), fun k => ?_⟩
    rw [show k + 10 + 3 = k + 1 + 12 from by omega, hl0, if_pos hu.1, decide_eq_true (by omega), spec_extStyle_text.j2, if_pos rfl, hy, Option.bind_some]
    dsimp only
    rw [if_pos (by omega), hw.out]
  have hx38 : (if r = 1 then decide ((m : Int) < 65536) else false) = false := by
    by_cases hr1 : r = 1
    · rw [if_pos hr1, decide_eq_false (by omega)]
    · rw [if_neg hr1]
  rw [hx38] at hl0
  by_cases hp2 : r = 1
  · -- two units
    have hmb : 65536 ≤ m := by omega
    have e1 := Lib.hid (wrap_hi m hmb (by omega))
    have e2 := Lib.hid (wrap_hi2 m (by omega))
    have e3 := Lib.hid (wrap_lo m (by omega))
    obtain ⟨y, p', hy, hp', hyl, d3, d2, d1, d0, hnb, hu4⟩ := unit_ok hp1 b1 b2 (55296 + (m - 65536) / 1024) (by omega)
    obtain ⟨y', p'', hy', hp'', hyl', d3', d2', d1', d0', hnb', hu4'⟩ := unit_ok hp' b1 b2 (56320 + (m - 65536) % 1024) (by omega)
    refine ⟨y ++ y', p'', 3, hp'', by rw [List.length_append]; omega, ?_, fun k => ?_⟩
    · rw [nb_append, hnb, hnb']
      have h2 := ReadAs.two _ _ _ _ _ _ _ _ _ _ hu4 hu4' (by omega) (by omega)
      have e4 : (55296 + (m - 65536) / 1024 - 55296) * 1024 + (56320 + (m - 65536) % 1024 - 56320) + 65536 = m := by omega
      rwa [e4] at h2
    · rw [show k + 10 + 3 = k + 1 + 12 from by omega, hl0, spec_extStyle_text.j2, if_neg (by decide), if_pos hp2, e1.out, e2.out, hy, Option.bind_some]
      dsimp only
      rw [if_pos (by omega), Option.bind_some, e3.out, hy', Option.bind_some]
      dsimp only
      rw [if_pos (by rw [List.length_append]; omega), hw.out, List.append_assoc]
  by_cases h47 : m = 47 ∧ r = 2
  · refine ⟨[92, 47], p1, 4, hp1, by simp, ?_, fun k => ?_⟩
    · rw [h47.1]
      exact .esc 47 47 (by decide) (by decide)
    · rw [show k + 10 + 4 = k + 2 + 12 from by omega, hl0, spec_extStyle_text.j2, if_neg (by decide), if_neg hp2, if_pos (by omega), h47.2, spec_extStyle_text.j3, if_pos (by decide), Option.bind_some, if_pos (by simp; omega), hw.out]
  have hj3 : ∀ k, spec_extStyle_text.l0 (k + 12) x x5 i code p b1 b2 = spec_extStyle_text.j3 (k + 9) x x5 i L m false code p1 b1 b2 := by
    intro k
    rw [hl0, spec_extStyle_text.j2, if_neg (by decide), if_neg hp2]
    by_cases h4 : (m : Int) = 47
    · rw [if_pos h4, show (r == 2) = false from by simp; omega]
    · rw [if_neg h4]
  clear hl0
  by_cases h34 : m = 34 ∨ m = 92
  · refine ⟨[92, (m : Int) % 256], p1, 5, hp1, by simp, ?_, fun k => ?_⟩
    · rcases h34 with rfl | rfl
      · exact .esc 34 34 (by decide) (by decide)
      · exact .esc 92 92 (by decide) (by decide)
    · have e : (if (m : Int) = 34 then spec_extStyle_text.j4 (k + 11) x x5 i L m true code p1 b1 b2 else spec_extStyle_text.j4 (k + 11) x x5 i L m ((m : Int) == 92) code p1 b1 b2) = spec_extStyle_text.j4 (k + 11) x x5 i L m true code p1 b1 b2 := by
        rcases h34 with h | h
        · rw [if_pos (by omega)]
        · rw [if_neg (by omega), show ((m : Int) == 92) = true from by rw [h]; decide]
      rw [show k + 10 + 5 = k + 3 + 12 from by omega, hj3, spec_extStyle_text.j3, if_neg (by decide), e, spec_extStyle_text.j4, if_pos rfl, Option.bind_some, if_pos (by simp; omega), hw.out]
  have hj4 : ∀ k, spec_extStyle_text.l0 (k + 12) x x5 i code p b1 b2 = spec_extStyle_text.j4 (k + 8) x x5 i L m false code p1 b1 b2 := by
    intro k
    rw [hj3, spec_extStyle_text.j3, if_neg (by decide), if_neg (by omega), show ((m : Int) == 92) = false from by simp; omega]
  clear hj3
  by_cases hc : m = 8 ∨ m = 9 ∨ m = 10 ∨ m = 12 ∨ m = 13
  · have hj5 : ∀ k, spec_extStyle_text.j4 (k + 8) x x5 i L m false code p1 b1 b2 = spec_extStyle_text.j5 (k + 7) x x5 i L m true code p1 b1 b2 := by
      intro k
      rw [spec_extStyle_text.j4, if_neg (by decide)]
      rcases hc with h | h | h | h | h
      · rw [if_pos (by omega)]
      · rw [if_neg (by omega), if_pos (by omega)]
      · rw [if_neg (by omega), if_neg (by omega), if_pos (by omega)]
      · rw [if_neg (by omega), if_neg (by omega), if_neg (by omega), if_pos (by omega)]
      · rw [if_neg (by omega), if_neg (by omega), if_neg (by omega), if_neg (by omega), show ((m : Int) == 13) = true from by rw [h]; decide]
    refine ⟨[92, bt (⟨#[98, 116, 110, 46, 102, 114]⟩ : ByteArray) (wrap64 ((m : Int) - 8))], p1, 6, hp1, by simp, ?_, fun k => ?_⟩
    · exact ctl_ok m hc
    · rw [show k + 10 + 6 = k + 4 + 12 from by omega, hj4, show k + 4 + 8 = (k + 4) + 8 from rfl, hj5, spec_extStyle_text.j5, if_pos rfl, if_pos (wrap_ctl m hc).1, if_pos (wrap_ctl m hc).2, Option.bind_some, if_pos (by simp; omega), hw.out]
  have hj5 : ∀ k, spec_extStyle_text.l0 (k + 12) x x5 i code p b1 b2 = spec_extStyle_text.j5 (k + 7) x x5 i L m false code p1 b1 b2 := by
    intro k
    rw [hj4, spec_extStyle_text.j4, if_neg (by decide), if_neg (by omega), if_neg (by omega), if_neg (by omega), if_neg (by omega), show ((m : Int) == 13) = false from by simp; omega]
  clear hj4
  by_cases h32 : m < 32
  · obtain ⟨y, p', hy, hp', hyl, d3, d2, d1, d0, hnb, hu4⟩ := unit_ok hp1 b1 b2 m (by omega)
    refine ⟨y, p', 6, hp', by omega, by rw [hnb]; exact .unit _ _ _ _ _ hu4 (by omega), fun k => ?_⟩
    rw [show k + 10 + 6 = k + 4 + 12 from by omega, hj5, spec_extStyle_text.j5, if_neg (by decide), if_pos (by omega), hy, Option.bind_some]
    dsimp only
    rw [if_pos (by omega), hw.out]
  · have hel : (x.extract i (i + L)).data.toList = runeB m := by rw [extract_list, ht]
    have hes : (x.extract i (i + L)).size = L := by rw [← data_length, hel, hLe]
    refine ⟨bytesOf (x.extract i (i + L)), p1, 6, hp1, by rw [bytesOf_length, hes]; omega, ?_, fun k => ?_⟩
    · unfold bytesOf
      rw [nb_bytes, hel]
      apply ReadAs.plains
      by_cases hb : m < 128
      · rw [runeB_one m hb]
        intro c hc
        simp only [List.mem_cons, List.not_mem_nil, or_false] at hc
        have e : c.toNat = m := by rw [hc, Nat.toUInt8_eq, UInt8.toNat_ofNat']; omega
        constructor
        · rintro rfl
          have : (34 : UInt8).toNat = 34 := rfl
          omega
        · rintro rfl
          have : (92 : UInt8).toNat = 92 := rfl
          omega
      · exact runeB_big m (by omega)
    · rw [show k + 10 + 6 = k + 4 + 12 from by omega, hj5, spec_extStyle_text.j5, if_neg (by decide), if_neg (by omega), hw.out, if_pos (by omega), if_pos (by omega), if_pos (by omega), Int.toNat_natCast, Int.toNat_natCast, hes, if_pos (by omega)]

/-- From i on, all are characters. -/
inductive Chars (x : ByteArray) : Nat → Prop
  | end_ : Chars x x.size
  | char (i m : Nat) (hi : i < x.size) (hm : m < 55296 ∨ (57344 ≤ m ∧ m < 1114112)) (hr : ∀ k, spec_extRune.f (k + 10) (x.extract i x.size) = some (((runeB m).length : Int), (m : Int)))
      (ht : (x.data.toList.drop i).take (runeB m).length = runeB m) (h : Chars x (i + (runeB m).length)) : Chars x i

theorem rune_stays (x : ByteArray) (r : Int × Int) (h : spec_extRune.f 10 x = some r) : ∀ k, spec_extRune.f (k + 10) x = some r := by
  intro k
  induction k with
  | zero => exact h
  | succ k ih => rw [show k + 1 + 10 = (k + 10) + 1 from by omega]; exact spec_extRune.mono x (k + 10) r ih

theorem utf8_from (x : ByteArray) (hx : x.size ≤ 1000) : ∀ d i : Nat, i + d = x.size → ∃ b, (∀ k, spec_ExtUTF8.l0 (k + 11 + d) x i = some b) ∧ (b = true → Chars x i) := by
  intro d
  induction d using Nat.strongRecOn with
  | _ d ih =>
    intro i hi
    by_cases hd : d = 0
    · subst hd
      have : i = x.size := by omega
      subst this
      refine ⟨true, fun k => ?_, fun _ => .end_⟩
      rw [show k + 11 + 0 = k + 10 + 1 from by omega, spec_ExtUTF8.l0, if_neg (by omega)]
    · obtain ⟨q, hq, hq2⟩ := extRune_is 0 (x.extract i x.size)
      have hq := rune_stays _ _ hq
      rcases hq2 with rfl | ⟨m, h2, hm, h1, ht⟩
      · refine ⟨false, fun k => ?_, fun h => by cases h⟩
        rw [show k + 11 + d = k + (d + 10) + 1 from by omega, spec_ExtUTF8.l0, if_pos (by omega), if_pos (by omega), if_pos (by omega), Int.toNat_natCast, show k + (d + 10) = (k + d) + 10 from by omega, hq, Option.bind_some]
        dsimp only
        rw [if_pos rfl]
      · obtain ⟨n, c⟩ := q
        dsimp only at h1 h2
        subst h1 h2
        have hL := runeB_len m
        have hdl : (x.extract i x.size).data.toList = x.data.toList.drop i := by
          have := extract_list x i (x.size - i)
          rw [show i + (x.size - i) = x.size from by omega] at this
          rw [this, List.take_of_length_le (by rw [List.length_drop, data_length]; omega)]
        rw [hdl] at ht
        have hL2 : i + (runeB m).length ≤ x.size := by
          have h1 := congrArg List.length ht
          rw [List.length_take, List.length_drop, data_length] at h1
          omega
        obtain ⟨b, hb, hb2⟩ := ih (d - (runeB m).length) (by omega) (i + (runeB m).length) (by omega)
        refine ⟨b, fun k => ?_, fun h => .char i m (by omega) hm hq ht (hb2 h)⟩
        rw [show k + 11 + d = k + (d + 10) + 1 from by omega, spec_ExtUTF8.l0, if_pos (by omega), if_pos (by omega), if_pos (by omega), Int.toNat_natCast, show k + (d + 10) = (k + d) + 10 from by omega, hq, Option.bind_some]
        dsimp only
        rw [if_neg (by omega), wrap_sum _ _ (by omega) (by omega)]
        have := hb (k + (runeB m).length - 1)
        rw [show k + (runeB m).length - 1 + 11 + (d - (runeB m).length) = k + d + 10 from by omega] at this
        exact this

/-- The check of a text. -/
theorem extText_is (x : ByteArray) : ∃ k b, laws_extText.f k x = some b ∧ (b = true → x.size ≤ 300 ∧ Chars x 0) := by
  by_cases hs : x.size ≤ 300
  · obtain ⟨b, hb, hb2⟩ := utf8_from x (by omega) x.size 0 (by omega)
    refine ⟨0 + 11 + x.size, b, ?_, fun h => ⟨hs, hb2 h⟩⟩
    unfold laws_extText.f spec_ExtUTF8.f
    rw [if_pos (by omega)]
    have := hb 0
    rw [Int.natCast_zero] at this
    rw [this, Option.bind_some]
  · refine ⟨0, false, ?_, fun h => by cases h⟩
    unfold laws_extText.f
    rw [if_neg (by omega)]

theorem text_from {code : List Int} (b1 b2 : Bool) (x : ByteArray) (hsz : x.size ≤ 300) (i : Nat) (hc : Chars x i) : ∀ (p : Int), AtOk code p → ∀ x5 : List Int, x5.length ≤ 12 * i + 10 →
    ∃ K e p', (∀ k, spec_extStyle_text.l0 (k + K) x x5 i code p b1 b2 = some (strOfNums (x5 ++ e ++ [34]), p', b1, b2)) ∧ e.length ≤ 12 * (x.size - i) ∧ ReadAs (nb e) (x.data.toList.drop i) := by
  induction hc with
  | end_ =>
    intro p hp x5 hx5
    refine ⟨1, [], p, fun k => ?_, by simp, ?_⟩
    · rw [spec_extStyle_text.l0, if_neg (by omega), if_pos (by omega), List.append_nil]
    · rw [List.drop_of_length_le (by rw [data_length]; omega)]
      exact .nil
  | char i m hi hm hr ht _ ih =>
    intro p hp x5 hx5
    obtain ⟨e, p', d, hp', he, hre, hk⟩ := text_round hp b1 b2 x x5 i hi (by omega) (by omega) m hm hr ht
    have hL := runeB_len m
    obtain ⟨K, e', p'', hK, he', hre'⟩ := ih p' hp' (x5 ++ e) (by rw [List.length_append]; omega)
    have hL2 : i + (runeB m).length ≤ x.size := by
      have h1 := congrArg List.length ht
      rw [List.length_take, List.length_drop, data_length] at h1
      omega
    refine ⟨K + 10 + d, e ++ e', p'', fun k => ?_, by rw [List.length_append]; omega, ?_⟩
    · have h1 := hk (k + K)
      rw [show k + (K + 10 + d) = k + K + 10 + d from by omega, h1, show k + K + 10 = (k + 10) + K from by omega, hK]
      simp
    · rw [nb_append]
      have e1 : x.data.toList.drop i = runeB m ++ x.data.toList.drop (i + (runeB m).length) := by
        conv => lhs; rw [← List.take_append_drop (runeB m).length (x.data.toList.drop i)]
        rw [ht, List.drop_drop]
      rw [e1]
      exact hre.append hre'

/-- A quoted text is one token. -/
theorem quoted_read (code : List Int) (hcode : code.length ≤ 1000000) (x : ByteArray) (hsz : x.size ≤ 300) (hc : Chars x 0) :
    ∃ K r p', spec_extStyle_text.f K code 0 false false x = some (r, p', false, false) ∧ r.size ≤ 4000 ∧ toks (fun _ _ => .out) (fun _ _ => .out) r.size 2 r.data.toList = some ([(9, .str x.data.toList, 0)], true) := by
  obtain ⟨K, e, p', hK, he, n, hn, hre⟩ := text_from (code := code) false false x hsz 0 hc 0 ⟨by omega, hcode⟩ [34] (by simp)
  have hl : (strOfNums ([34] ++ e ++ [34])).data.toList = 34 :: (nb e ++ [34]) := by
    rw [strOfNums_data]
    show nb ([34] ++ e ++ [34]) = _
    rw [nb_append, nb_append]
    rfl
  refine ⟨K, strOfNums ([34] ++ e ++ [34]), p', ?_, ?_, ?_⟩
  · have := hK 0
    rw [Nat.zero_add, Int.natCast_zero] at this
    exact this
  · rw [strOfNums_size]; simp; omega
  · have hsz2 : (strOfNums ([34] ++ e ++ [34])).size = e.length + 2 := by rw [strOfNums_size]; simp
    have hne : (nb e).length = e.length := by simp [nb]
    rw [hl, hsz2]
    have hs : strRun ((nb e ++ [34]).length + 1) [] (nb e ++ [34]) = .ok x.data.toList [] := by
      have h1 := hre ((nb e ++ [34]).length + 1 - n) [] [34]
      have hn2 : (nb e ++ [34]).length = (nb e).length + 1 := by simp
      rw [Nat.sub_add_cancel (by omega)] at h1
      rw [h1]
      obtain ⟨q, hq⟩ : ∃ q, (nb e ++ [34]).length + 1 - n = q + 1 := ⟨(nb e ++ [34]).length - n, by omega⟩
      rw [hq, strRun]
      simp [strStep]
    have ht : tokAt (fun _ _ => .out) (fun _ _ => .out) 34 (nb e ++ [34]) = .tok 9 (.str x.data.toList) [] := by
      have hs2 : strSub (nb e ++ [34]) = .tok 9 (.str x.data.toList) [] := by unfold strSub; rw [hs]
      simp [tokAt, hs2]
    rw [toks]
    have hb : (34 :: (nb e ++ [34]) : List UInt8).dropWhile isBlank = 34 :: (nb e ++ [34]) := by simp [isBlank]
    rw [hb]
    dsimp only
    rw [ht]
    dsimp only
    rw [toks]
    simp [hne]

end Go.Proofs.YtdabllkphibfmaaGreatDoor
