/- Floats as texts: sizes, formatDouble. -/
import Derived.Test.YtpkfdbhpmhahaaaGreatDoorFeg
namespace Go.Proofs.YtpkfdbhpmhahaaaGreatDoor
open Go Go.RowKit Go.Lib Go.Proofs
set_option linter.unusedSimpArgs false
set_option linter.unusedVariables false

theorem efgE_size (ds : List UInt8) (hd : ds.length ≤ 30) (dp : Int) : 0 < (efgE ds dp).length ∧ (efgE ds dp).length ≤ 60 := by
  have h1 : ∀ x, (expD x).length ≤ 3 := fun x => by unfold expD; split <;> (try split) <;> simp
  have e1 := h1 0
  have e2 := h1 (1 - dp).toNat
  have e3 := h1 (dp - 1).toNat
  unfold efgE
  simp only [List.length_append, List.length_cons, List.length_nil]
  have a1 : (if 1 < ds.length then [46] ++ ds.drop 1 else [] : List UInt8).length ≤ 31 := by split <;> simp; omega
  have a2 : (if ds.length = 0 then [43] ++ expD 0 else if dp - 1 < 0 then [45] ++ expD (1 - dp).toNat else [43] ++ expD (dp - 1).toNat : List UInt8).length ≤ 4 := by
    split
    · simp only [List.length_append, List.length_cons, List.length_nil]; omega
    · split <;> (simp only [List.length_append, List.length_cons, List.length_nil]; omega)
  omega
theorem efgF_size (ds : List UInt8) (hd : ds.length ≤ 30) (dp : Int) (h : -4 ≤ dp - 1 ∧ dp - 1 < 6) : 0 < (efgF ds dp).length ∧ (efgF ds dp).length ≤ 90 := by
  unfold efgF
  by_cases hp : 0 < dp
  · rw [if_pos hp]
    have a1 : (if dp < ds.length then [46] ++ ds.drop dp.toNat else [] : List UInt8).length ≤ 31 := by split <;> simp; omega
    simp only [List.length_append, List.length_take, List.length_replicate]
    omega
  · rw [if_neg hp]
    have a1 : (if 0 < (ds.length : Int) - dp then [46] ++ List.replicate (-dp).toNat 48 ++ ds else [] : List UInt8).length ≤ 40 := by split <;> simp; omega
    simp only [List.length_append, List.length_cons, List.length_nil]
    omega
theorem ftoaT_size (neg : Bool) (E Mn M2 d : Nat) (p : Int) (hd : d < 18446744073709551616) : 0 < (ftoaT neg E Mn M2 d p).length ∧ (ftoaT neg E Mn M2 d p).length ≤ 100 := by
  have hs : (sgn neg).length ≤ 1 := by unfold sgn; split <;> simp
  have ht : (trimL (digL d)).length ≤ 30 := by rw [trimL_length]; have := trimN_le (digL d) (digL d).length; have := digL_le d hd; omega
  unfold ftoaT
  split
  · split
    · decide
    · split <;> decide
  · split
    · simp; omega
    · split
      · have := efgE_size (trimL (digL d)) ht ((digL d).length + p)
        simp only [List.length_append]
        omega
      · rename_i h
        have := efgF_size (trimL (digL d)) ht ((digL d).length + p) (by omega)
        simp only [List.length_append]
        omega

/-- FormatFloat(f, 'G', -1, 64): one answer. -/
theorem fmtFloat (b : Nat) (hb : b < 18446744073709551616) : ∃ T : ByteArray, 0 < T.size ∧ T.size ≤ 100 ∧ ∀ w, Tabs w → Calls Tryz.prog 92 #[.float .f64 b, .int .u8 71, .int .i64 (-1), .int .i64 64] w (Txt T w) := by
  obtain ⟨E, hE⟩ : ∃ x, x = b / 4503599627370496 % 2048 := ⟨_, rfl⟩
  obtain ⟨Mn, hMn⟩ : ∃ x, x = b % 4503599627370496 := ⟨_, rfl⟩
  obtain ⟨M2, hM2⟩ : ∃ x, x = if E = 0 then Mn else Mn + 4503599627370496 := ⟨_, rfl⟩
  obtain ⟨EX, hEX⟩ : ∃ x : Int, x = if E = 0 then -1022 else (E : Int) - 1023 := ⟨_, rfl⟩
  obtain ⟨s, hs⟩ : ∃ x, x = 64 - Lib.bitLen M2 := ⟨_, rfl⟩
  have hw := wrap_u ((M2 : Int) * 2 ^ s)
  unfold InU at hw
  obtain ⟨m, hm⟩ : ∃ m : Nat, IntKind.u64.wrap ((M2 : Int) * 2 ^ s) = (m : Int) := ⟨(IntKind.u64.wrap ((M2 : Int) * 2 ^ s)).toNat, by omega⟩
  have hEXb : -1022 ≤ EX ∧ EX ≤ 1024 := by rw [hEX]; split <;> omega
  have hMb : M2 < 9007199254740992 := by rw [hM2]; split <;> omega
  have hs2 : 11 ≤ s := by
    have h1 : Lib.bitLen M2 ≤ 53 := Lib.bitLen_le M2 53 (by decide) (by simpa using hMb)
    omega
  have hs1 : ¬ M2 = 0 → s ≤ 63 := fun h0 => by
    have h1 := Lib.bitLen_half M2 h0 (by omega)
    omega
  obtain ⟨d, p, hd, hp, HSF⟩ : ∃ (d : Nat) (p : Int), d < 18446744073709551616 ∧ (-340 ≤ p ∧ p ≤ 340) ∧ (¬ M2 = 0 → ∀ w, Tabs w → Calls Tryz.prog 145 #[.int .u64 (m : Int), .int .i64 (EX - s - 52)] w (RetDP d p w)) := by
    by_cases h0 : M2 = 0
    · exact ⟨0, 0, by decide, by decide, fun h => absurd h0 h⟩
    · obtain ⟨d, p, h1, h2, h3⟩ := shortF m (by omega) (EX - s - 52) (by have := hs1 h0; omega)
      exact ⟨d, p, h1, h2, fun _ => h3⟩
  refine ⟨⟨(ftoaT ((b / 9223372036854775808 : Nat) != 0) E Mn M2 d p).toArray⟩, (ftoaT_size _ E Mn M2 d p hd).1, (ftoaT_size _ E Mn M2 d p hd).2, fun w hT => ?_⟩
  have hc := fmtFl0 b _ (fun B g0 cp0 ob0 w0 w hT hO hB => ftoaW b hb _ E Mn M2 s m d EX p rfl hE hMn hM2 hEX hs hm hd hp HSF B g0 cp0 ob0 w0 w hT hO hB) w hT
  generalize (⟨(ftoaT ((b / 9223372036854775808 : Nat) != 0) E Mn M2 d p).toArray⟩ : ByteArray) = T at hc ⊢
  have HC := Lib.hid hc
  clear hc HSF hT hE hMn hM2 hEX hs hm hd hp hEXb hw hb hMb hs1 hs2
  go_enter Tryz.func92, Tryz.ntmps92
  go_wp2_with (first | (go_at_call 104; refine (HC.out).mono ?_; rintro e w1 ⟨rfl, hb⟩))
  go_ret
  exact ⟨rfl, hb⟩

set_option maxRecDepth 100000 in
set_option maxHeartbeats 4000000 in
/-- formatDouble: one answer. -/
theorem fmtDouble (b : Nat) (hb : b < 18446744073709551616) : ∃ T : ByteArray, 0 < T.size ∧ T.size ≤ 110 ∧ ∀ w, Tabs w → Calls Tryz.prog 77 #[.float .f64 b] w (Txt T w) := by
  obtain ⟨r1, h1⟩ := isInfP b
  obtain ⟨r2, h2⟩ := isInfM b
  obtain ⟨r3, h3⟩ := isNaN b
  obtain ⟨F, hF0, hF1, hF⟩ := fmtFloat b hb
  obtain ⟨q, hq⟩ : ∃ q : Int → Bool, ∀ c, q c = hasR F c (F.size + 1) 0 := ⟨_, fun _ => rfl⟩
  have hQ : ∀ c : Int, (c = 69 ∨ c = 46) → ∀ w, Calls Tryz.prog 93 #[.string F, .int .i32 c] w (fun e w' => e = .returned (.bool (q c)) ∧ Below w.heap.size w w') := fun c hc w => by
    rcases hc with rfl | rfl
    · rw [hq]; exact containsRuneE F (by omega) w
    · rw [hq]; exact containsRuneP F (by omega) w
  have H1 := Lib.hid h1
  have H2 := Lib.hid h2
  have H3 := Lib.hid h3
  have HF := Lib.hid hF
  have HQ := Lib.hid hQ
  clear h1 h2 h3 hF hQ hq
  cases r1 with
  | true =>
    refine ⟨⟨#[73, 110, 102, 105, 110, 105, 116, 121]⟩, by decide, by decide, fun w hT => ?_⟩
    go_enter Tryz.func77, Tryz.ntmps77
    go_upto_if 16 with (first | (go_at_call 90; refine (H1.out _).mono ?_; rintro e w1 ⟨rfl, rfl⟩))
    go_wp2
    go_ret
    exact ⟨rfl, Below.refl _ _⟩
  | false =>
  cases r2 with
  | true =>
    refine ⟨⟨#[45, 73, 110, 102, 105, 110, 105, 116, 121]⟩, by decide, by decide, fun w hT => ?_⟩
    go_enter Tryz.func77, Tryz.ntmps77
    go_upto_if 16 with (first | (go_at_call 90; refine (H1.out _).mono ?_; rintro e w1 ⟨rfl, rfl⟩))
    go_upto_if 19 with (first | (go_at_call 90; refine (H2.out _).mono ?_; rintro e w1 ⟨rfl, rfl⟩))
    go_wp2
    go_ret
    exact ⟨rfl, Below.refl _ _⟩
  | false =>
  cases r3 with
  | true =>
    refine ⟨⟨#[78, 97, 78]⟩, by decide, by decide, fun w hT => ?_⟩
    go_enter Tryz.func77, Tryz.ntmps77
    go_upto_if 16 with (first | (go_at_call 90; refine (H1.out _).mono ?_; rintro e w1 ⟨rfl, rfl⟩))
    go_upto_if 19 with (first | (go_at_call 90; refine (H2.out _).mono ?_; rintro e w1 ⟨rfl, rfl⟩))
    go_upto_if 22 with (first | (go_at_call 91; refine (H3.out _).mono ?_; rintro e w1 ⟨rfl, rfl⟩))
    go_wp2
    go_ret
    exact ⟨rfl, Below.refl _ _⟩
  | false =>
  cases hqE : q 69 with
  | true =>
    refine ⟨F, hF0, by omega, fun w hT => ?_⟩
    have HT := Lib.hid hT
    have hFs : F.size + 2 ≤ 9223372036854775807 := by omega
    clear hT hF0 hF1
    go_enter Tryz.func77, Tryz.ntmps77
    go_upto_if 16 with (first | (go_at_call 90; refine (H1.out _).mono ?_; rintro e w1 ⟨rfl, rfl⟩))
    go_upto_if 19 with (first | (go_at_call 90; refine (H2.out _).mono ?_; rintro e w1 ⟨rfl, rfl⟩))
    go_upto_if 22 with (first | (go_at_call 91; refine (H3.out _).mono ?_; rintro e w1 ⟨rfl, rfl⟩))
    go_upto_region 3 with (first | (go_at_call 92; refine (HF.out _ HT.out).mono ?_; rintro e w2 ⟨rfl, hb2⟩; have HB := Lib.hid hb2; clear hb2))
    go_wp2_with (first | (go_at_call 93; refine (HQ.out _ (by omega) _).mono ?_; rintro e w3 ⟨rfl, hb3⟩; have HB3 := Lib.hid (HB.out.trans (hb3.mono HB.out.size)); clear hb3 HB; have HB := HB3; clear HB3))
    go_ret
    exact ⟨rfl, HB.out⟩
  | false =>
  cases hqP : q 46 with
  | true =>
    refine ⟨F, hF0, by omega, fun w hT => ?_⟩
    have HT := Lib.hid hT
    have hFs : F.size + 2 ≤ 9223372036854775807 := by omega
    clear hT hF0 hF1
    go_enter Tryz.func77, Tryz.ntmps77
    go_upto_if 16 with (first | (go_at_call 90; refine (H1.out _).mono ?_; rintro e w1 ⟨rfl, rfl⟩))
    go_upto_if 19 with (first | (go_at_call 90; refine (H2.out _).mono ?_; rintro e w1 ⟨rfl, rfl⟩))
    go_upto_if 22 with (first | (go_at_call 91; refine (H3.out _).mono ?_; rintro e w1 ⟨rfl, rfl⟩))
    go_upto_region 3 with (first | (go_at_call 92; refine (HF.out _ HT.out).mono ?_; rintro e w2 ⟨rfl, hb2⟩; have HB := Lib.hid hb2; clear hb2))
    go_wp2_with (first | (go_at_call 93; refine (HQ.out _ (by omega) _).mono ?_; rintro e w3 ⟨rfl, hb3⟩; have HB3 := Lib.hid (HB.out.trans (hb3.mono HB.out.size)); clear hb3 HB; have HB := HB3; clear HB3))
    go_ret
    exact ⟨rfl, HB.out⟩
  | false =>
    refine ⟨F ++ ⟨#[46, 48]⟩, by rw [ByteArray.size_append]; omega, by rw [ByteArray.size_append]; show _ + 2 ≤ _; omega, fun w hT => ?_⟩
    have HT := Lib.hid hT
    have hFs : F.size + 2 ≤ 9223372036854775807 := by omega
    clear hT hF0 hF1
    go_enter Tryz.func77, Tryz.ntmps77
    go_upto_if 16 with (first | (go_at_call 90; refine (H1.out _).mono ?_; rintro e w1 ⟨rfl, rfl⟩))
    go_upto_if 19 with (first | (go_at_call 90; refine (H2.out _).mono ?_; rintro e w1 ⟨rfl, rfl⟩))
    go_upto_if 22 with (first | (go_at_call 91; refine (H3.out _).mono ?_; rintro e w1 ⟨rfl, rfl⟩))
    go_upto_region 3 with (first | (go_at_call 92; refine (HF.out _ HT.out).mono ?_; rintro e w2 ⟨rfl, hb2⟩; have HB := Lib.hid hb2; clear hb2))
    go_wp2_with (first | (go_at_call 93; refine (HQ.out _ (by omega) _).mono ?_; rintro e w3 ⟨rfl, hb3⟩; have HB3 := Lib.hid (HB.out.trans (hb3.mono HB.out.size)); clear hb3 HB; have HB := HB3; clear HB3))
    go_ret
    exact ⟨rfl, HB.out⟩

end Go.Proofs.YtpkfdbhpmhahaaaGreatDoor
